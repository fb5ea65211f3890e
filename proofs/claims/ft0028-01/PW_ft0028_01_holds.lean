import PyProof.Rows.All
import OpenK.ZGo
import Lean
import PySem.Challenge.RW_ft0028_01

set_option maxRecDepth 100000
set_option maxHeartbeats 0
set_option Elab.async false
set_option linter.all false

/-! Base0 -/
namespace Mine
open Lean Meta Elab Tactic PySem PySem.W PySem.W.X PyProof.Rows

def pE : Lean.Expr := mkConst ``PySem.Challenge.pw_ft0028_01
def theP (g : MVarId) : MetaM Lean.Expr := g.withContext do
  let some q := (← getLCtx).findFromUserName? `P | throwError "no P"
  return q.toExpr

/-- the heap behind the top: each object as a definition of its own -/
def objsTac : TacticM Unit := do
  let g ← getMainGoal
  g.withContext do
    let some (h, h') ← twoRuns (← progOf pE) | throwError "no top"
    let P := mkConst ``Params
    let q ← theP g
    let fr ← withLocalDeclD `P P fun q => do
      (List.range h.objs.size).mapM fun a => do
        let (some o, some o') := (h.get? a, h'.get? a) | throwError "a freed object"
        let e := objE q o
        unless e == objE q o' do throwError "an object is the world's"
        let e ← match ← ZFast.quick e with | some (e', _) => pure e' | none => pure e
        defAt `zo (← mkArrow P (mkConst ``Obj)) (← mkLambdaFVars #[q] e)
    logInfo m!"{h.objs.size} objects"
    g.assign (listE (mkConst ``Obj) (fr.map fun c => mkApp c q))
    replaceMainGoal []
noncomputable def objs (P : Params) : List Obj := by run_tac objsTac

def listOf (e : Lean.Expr) : Nat → MetaM (List Lean.Expr)
  | 0 => return []
  | n + 1 => if e.isAppOfArity ``List.cons 3 then do return e.getAppArgs[1]! :: (← listOf e.getAppArgs[2]! n) else return []
def topTac : TacticM Unit := do
  let g ← getMainGoal
  g.withContext do
    let q ← theP g
    let some v := (← getConstInfo ``objs).value? | throwError "objs"
    let l ← listOf (v.beta #[q]).headBeta 100000
    g.assign (← ZRun.ktE q (l.zipIdx.map fun (e, a) => (a, e.getAppFn.constName!)))
    replaceMainGoal []
noncomputable def top (P : Params) : KT := by run_tac topTac
def evens : List Obj → List Obj
  | [] => []
  | [x] => [x]
  | x :: _ :: l => x :: evens l
def odds : List Obj → List Obj
  | [] => []
  | [_] => []
  | _ :: y :: l => y :: odds l
def ofl : Nat → List Obj → KT
  | 0, _ => .nil
  | _ + 1, [] => .nil
  | n + 1, x :: l => .node (some x) (ofl n (evens l)) (ofl n (odds l))
theorem evens_at : ∀ (l : List Obj) (i : Nat), (evens l)[i]? = l[2 * i]?
  | [], i => by simp [evens]
  | [x], 0 => by simp [evens]
  | [x], i + 1 => by simp [evens, Nat.mul_add]
  | x :: y :: l, 0 => by simp [evens]
  | x :: y :: l, i + 1 => by
    have e : 2 * (i + 1) = 2 * i + 1 + 1 := by omega
    rw [e]
    show (evens l)[i]? = _
    rw [evens_at l i]
    simp
theorem odds_at : ∀ (l : List Obj) (i : Nat), (odds l)[i]? = l[2 * i + 1]?
  | [], i => by simp [odds]
  | [x], i => by simp [odds]
  | x :: y :: l, 0 => by simp [odds]
  | x :: y :: l, i + 1 => by
    have e : 2 * (i + 1) + 1 = (2 * i + 1) + 1 + 1 := by omega
    rw [e]
    show (odds l)[i]? = _
    rw [odds_at l i]
    simp
theorem ofl_get : ∀ (n : Nat) (l : List Obj) (i : Nat) (o : Obj), (ofl n l).get i = some o → l[i]? = some o
  | 0, _, _, _, e => nomatch e
  | _ + 1, [], _, _, e => nomatch e
  | n + 1, x :: l, i, o, e => by
    have e' : (KT.node (some x) (ofl n (evens l)) (ofl n (odds l))).get i = some o := e
    rw [KT.get_node] at e'
    by_cases h0 : i = 0
    · rw [if_pos h0] at e'; subst h0; simpa using e'
    · rw [if_neg h0] at e'
      by_cases p : i % 2 = 1
      · rw [if_pos p] at e'
        have z := ofl_get n _ _ _ e'
        rw [evens_at] at z
        have : i = 2 * (i / 2) + 1 := by omega
        rw [this]; simpa using z
      · rw [if_neg p] at e'
        have z := ofl_get n _ _ _ e'
        rw [odds_at] at z
        have : i = 2 * (i / 2 - 1) + 1 + 1 := by omega
        rw [this]; simpa using z
theorem top_eq (P : Params) : ofl 12 (objs P) = top P := by kernel_rfl
def numsTac : TacticM Unit := do
  let g ← getMainGoal
  let tk ← match ← traceTop (← progOf pE) 1000000 1 with
    | .ok t => pure t.fin.s.toks
    | .error m => throwError "the head falls: {m}"
  g.assign (mkRawNatLit tk)
  replaceMainGoal []
def tok₀ : Nat := by run_tac numsTac

def seenOf (s : Shared) : Array Obj × Nat := (s.heap.objs, s.toks)
noncomputable def seenIs (w : World) : Array Obj × Nat := (⟨objs w.params⟩, tok₀)
def freed (o : Obj) : Bool := match o.data with | .freed => true | _ => false
theorem alive_all (P : Params) : (objs P).all (fun o => !o.isFreed) = true := by kernel_rfl
theorem top_in {w : World} {s : Shared} (y : seenOf s = seenIs w) (a : Addr) (o : Obj) (e : (top w.params).get a = some o) : s.heap.get? a = some o := by
  have y1 : s.heap.objs = ⟨objs w.params⟩ := congrArg Prod.fst y
  rw [← top_eq] at e
  have z := ofl_get _ _ _ _ e
  have hf : o.isFreed = false := by
    have := List.all_eq_true.mp (alive_all w.params) o (List.mem_of_getElem? z)
    simpa using this
  have z' : s.heap.objs[a]? = some o := by rw [y1]; simpa using z
  unfold Heap.get?
  rw [z']
  obtain ⟨c, d, dt, sl⟩ := o
  cases dt <;> first | rfl | (exact absurd hf (by simp [Obj.isFreed]))
end Mine

/-! Core -/
namespace Mine
open PySem PySem.Spec PySem.Calls PyProof.Rows PySem.W PySem.W.X

abbrev Gm := Addr → Option Obj
def Le (g g' : Gm) : Prop := ∀ b o, g b = some o → g' b = some o
theorem Le.refl (g : Gm) : Le g g := fun _ _ e => e
theorem Le.trans {a b c : Gm} (x : Le a b) (y : Le b c) : Le a c := fun p o e => y p o (x p o e)
def Inh (g : Gm) (h : Heap) : Prop := ∀ b o, g b = some o → h.get? b = some o

abbrev Tr := List (Option (Addr × Obj))
def tget : Tr → Nat → Option (Addr × Obj)
  | [], _ => none
  | x :: _, 0 => x
  | _ :: l, n + 1 => tget l n
def tput : Tr → Nat → Option (Addr × Obj) → Tr
  | [], _, _ => []
  | _ :: l, 0, v => v :: l
  | x :: l, n + 1, v => x :: tput l n v
def tadd : Tr → Option (Addr × Obj) → Tr
  | [], v => [v]
  | x :: l, v => x :: tadd l v
def tlen : Tr → Nat
  | [] => 0
  | _ :: l => tlen l + 1
theorem tget_lt : ∀ {T : Tr} {k : Nat} {p : Addr × Obj}, tget T k = some p → k < tlen T
  | [], _, _, e => nomatch e
  | _ :: l, 0, _, _ => Nat.succ_pos _
  | _ :: l, k + 1, _, e => Nat.succ_lt_succ (tget_lt (T := l) e)
theorem tget_tput (v : Option (Addr × Obj)) : ∀ (T : Tr) (k j : Nat), tget (tput T k v) j = if j = k ∧ k < tlen T then v else tget T j
  | [], k, j => by
    have : ¬ (k < tlen []) := Nat.not_lt_zero _
    simp [tput, this]
  | x :: l, 0, 0 => by simp [tput, tget, tlen]
  | x :: l, 0, j + 1 => by simp [tput, tget]
  | x :: l, k + 1, 0 => by simp [tput, tget]
  | x :: l, k + 1, j + 1 => by
    show tget (tput l k v) j = _
    rw [tget_tput v l k j]
    simp [tlen, tget]
theorem tlen_tput (v : Option (Addr × Obj)) : ∀ (T : Tr) (k : Nat), tlen (tput T k v) = tlen T
  | [], _ => rfl
  | _ :: _, 0 => rfl
  | _ :: l, k + 1 => congrArg (· + 1) (tlen_tput v l k)
theorem tget_tadd (v : Option (Addr × Obj)) : ∀ (T : Tr) (j : Nat), tget (tadd T v) j = if j = tlen T then v else tget T j
  | [], 0 => rfl
  | [], j + 1 => by simp [tadd, tget, tlen]
  | x :: l, 0 => by simp [tadd, tget, tlen]
  | x :: l, j + 1 => by
    show tget (tadd l v) j = _
    rw [tget_tadd v l j]
    simp [tlen, tget]
theorem tlen_tadd (v : Option (Addr × Obj)) : ∀ (T : Tr), tlen (tadd T v) = tlen T + 1
  | [] => rfl
  | _ :: l => congrArg (· + 1) (tlen_tadd v l)

structure Frm where
  H : Gm
  z : Nat
  g₀ : Gm
  k₀ : Nat

structure HS (F : Frm) (g : Gm) (T : Tr) (ρ : Nat → Addr) (h : Heap) : Prop where
  vis : Inh g h
  hid : Inh F.H h
  own : ∀ k p, tget T k = some p → h.get? p.1 = some p.2 ∧ g p.1 = none ∧ F.H p.1 = none ∧ (F.k₀ ≤ k → F.z ≤ p.1)
  inj : ∀ k k' p p', tget T k = some p → tget T k' = some p' → p.1 = p'.1 → k = k'
  cur : ∀ i, tlen T ≤ i → ρ i = h.objs.size + (i - tlen T)
  siz : F.z ≤ h.objs.size
  old : ∀ b, b < F.z → g b = F.g₀ b

theorem none_of_size {g : Gm} {h : Heap} (v : Inh g h) {a : Addr} (e : h.objs.size ≤ a) : g a = none := by
  cases q : g a with
  | none => rfl
  | some o => exact absurd (Heap.lt_size (v a o q)) (Nat.not_lt.mpr e)

section
variable {F : Frm} {g : Gm} {T : Tr} {ρ : Nat → Addr} {h : Heap}
theorem HS.here (S : HS F g T ρ h) {n : Nat} (hn : tlen T = n) : ρ n = h.objs.size := by
  rw [S.cur n (Nat.le_of_eq hn), hn, Nat.sub_self, Nat.add_zero]
theorem HS.alloc (S : HS F g T ρ h) {o : Obj} {n : Nat} (hn : tlen T = n) (hf : o.isFreed = false) : HS F g (tadd T (some (ρ n, o))) ρ (h.push o) := by
  have e := S.here hn
  refine ⟨fun b x q => Heap.get?_push_of_some _ (S.vis b x q), fun b x q => Heap.get?_push_of_some _ (S.hid b x q), fun k p q => ?_, fun k k' p p' q q' w => ?_, fun i hi => ?_, ?_, S.old⟩
  · rw [tget_tadd] at q
    by_cases hk : k = tlen T
    · rw [if_pos hk] at q
      cases q
      rw [e]
      exact ⟨Heap.get?_push_size _ hf, none_of_size S.vis (Nat.le_refl _), none_of_size S.hid (Nat.le_refl _), fun _ => S.siz⟩
    · rw [if_neg hk] at q
      have y := S.own k p q
      exact ⟨Heap.get?_push_of_some _ y.1, y.2⟩
  · rw [tget_tadd] at q q'
    have lt : ∀ {j : Nat} {x : Addr × Obj}, tget T j = some x → x.1 ≠ ρ n := fun {j x} y z => by
      have := Heap.lt_size (S.own j x y).1
      rw [z, e] at this
      exact Nat.lt_irrefl _ this
    by_cases hk : k = tlen T
    · by_cases hk' : k' = tlen T
      · rw [hk, hk']
      · rw [if_pos hk] at q
        rw [if_neg hk'] at q'
        cases q
        exact absurd w.symm (lt q')
    · by_cases hk' : k' = tlen T
      · rw [if_neg hk] at q
        rw [if_pos hk'] at q'
        cases q'
        exact absurd w (lt q)
      · rw [if_neg hk] at q
        rw [if_neg hk'] at q'
        exact S.inj k k' p p' q q' w
  · rw [tlen_tadd] at hi ⊢
    have hi' : tlen T ≤ i := Nat.le_of_succ_le hi
    have q : ∀ (i m s : Nat), m + 1 ≤ i → s + (i - m) = s + 1 + (i - (m + 1)) := fun i m s h => by omega
    rw [S.cur i hi', Heap.size_push]
    exact q _ _ _ hi
  · rw [Heap.size_push]
    exact Nat.le_succ_of_le S.siz
theorem HS.update (S : HS F g T ρ h) {k : Nat} {a : Addr} {o : Obj} {f : Obj → Obj} (e : tget T k = some (a, o)) (hf : (f o).isFreed = false) : HS F g (tput T k (some (a, f o))) ρ (h.update a f) := by
  have y := S.own k _ e
  have hs : Heap.SameBut a h (h.update a f) := Heap.SameBut.update ..
  have ge : (h.update a f).get? a = some (f o) := by first | exact Heap.get?_update_self f y.1 hf | exact Heap.get?_update_self _ y.1 hf
  have off : ∀ (g' : Gm), g' a = none → Inh g' h → Inh g' (h.update a f) := fun g' n v b x q => by
    have : b ≠ a := fun z => by rw [z, n] at q; cases q
    exact (hs.2 b this).trans (v b x q)
  refine ⟨off g y.2.1 S.vis, off F.H y.2.2.1 S.hid, fun j p q => ?_, fun j j' p p' q q' w => ?_, fun i hi => ?_, by rw [hs.1]; exact S.siz, S.old⟩
  · rw [tget_tput] at q
    by_cases hj : j = k ∧ k < tlen T
    · rw [if_pos hj] at q
      cases q
      exact ⟨ge, y.2.1, y.2.2.1, hj.1 ▸ y.2.2.2⟩
    · rw [if_neg hj] at q
      have z := S.own j p q
      have ne : p.1 ≠ a := fun w => hj ⟨S.inj j k p _ q e w, tget_lt e⟩
      exact ⟨(hs.2 _ ne).trans z.1, z.2⟩
  · have adr : ∀ {j : Nat} {p : Addr × Obj}, tget (tput T k (some (a, f o))) j = some p → ∃ p₀, tget T j = some p₀ ∧ p₀.1 = p.1 := fun {j p} q => by
      rw [tget_tput] at q
      by_cases hj : j = k ∧ k < tlen T
      · rw [if_pos hj] at q
        cases q
        exact ⟨(a, o), hj.1 ▸ e, rfl⟩
      · rw [if_neg hj] at q
        exact ⟨p, q, rfl⟩
    obtain ⟨p₀, q₀, w₀⟩ := adr q
    obtain ⟨p₁, q₁, w₁⟩ := adr q'
    exact S.inj j j' p₀ p₁ q₀ q₁ (w₀.trans (w.trans w₁.symm))
  · rw [tlen_tput] at hi ⊢
    rw [hs.1]
    exact S.cur i hi
def updG (g : Gm) (a : Addr) (o : Obj) : Gm := fun b => if b = a then some o else g b
theorem updG_le {g : Gm} {a : Addr} {o : Obj} (n : g a = none) : Le g (updG g a o) := fun b x q => by
  have : b ≠ a := fun z => by rw [z, n] at q; cases q
  show (if b = a then some o else g b) = some x
  rw [if_neg this]; exact q
theorem updG_at (g : Gm) (a : Addr) (o : Obj) : updG g a o a = some o := if_pos rfl
theorem HS.freeze (S : HS F g T ρ h) {k : Nat} {a : Addr} {o : Obj} (e : tget T k = some (a, o)) (hk : F.k₀ ≤ k) : HS F (updG g a o) (tput T k none) ρ h := by
  have y := S.own k _ e
  have back : ∀ {j : Nat} {p : Addr × Obj}, tget (tput T k none) j = some p → j ≠ k ∧ tget T j = some p := fun {j p} q => by
    rw [tget_tput] at q
    by_cases hj : j = k ∧ k < tlen T
    · rw [if_pos hj] at q; cases q
    · rw [if_neg hj] at q
      exact ⟨fun w => hj ⟨w, tget_lt e⟩, q⟩
  refine ⟨fun b x q => ?_, S.hid, fun j p q => ?_, fun j j' p p' q q' w => S.inj j j' p p' (back q).2 (back q').2 w, fun i hi => ?_, S.siz, fun b hb => ?_⟩
  · by_cases hb : b = a
    · subst hb
      rw [updG_at] at q
      cases q
      exact y.1
    · have : updG g a o b = g b := if_neg hb
      rw [this] at q
      exact S.vis b x q
  · obtain ⟨ne, q'⟩ := back q
    have z := S.own j p q'
    have hne : p.1 ≠ a := fun w => ne (S.inj j k p _ q' e w)
    exact ⟨z.1, (if_neg hne).trans z.2.1, z.2.2⟩
  · rw [tlen_tput] at hi ⊢
    exact S.cur i hi
  · have : b ≠ a := fun w => by
      have := y.2.2.2 hk
      exact absurd hb (Nat.not_lt.mpr (w ▸ this))
    exact (if_neg this).trans (S.old b hb)
end

/-- what stays as it is through the whole call -/
structure Cx where
  prog : Program
  w : World
  gs : Array GenState
  d : Drawn
  os : OsState
abbrev Cx.sh (X : Cx) (h : Heap) (tk : Nat) : Shared := ⟨h, X.gs, X.d, tk, X.os⟩
abbrev Cx.M (X : Cx) : Model := model X.prog X.w
abbrev Cx.S (X : Cx) : Setting := ⟨X.prog, X.w.params⟩

def Ar (d u : Nat) : Around := { handled := none, depth := d, frames := none, guards := none, units := u }
theorem under_Ar (d u : Nat) (c : Code) : (Ar d u).under c = Ar (d + c.weight) (u + c.cUnits) := by
  unfold Ar Around.under
  rw [pushEnvs_eq, pushGuards_eq]
  rfl
theorem mark_Ar (d u : Nat) : (Ar d u).mark none = Ar d u := rfl

def Run (X : Cx) (A : Around) (c : Code) (t : Sem Fin) (R : Result → Shared → Prop) (s : Shared) : Prop :=
  wpOwn X.M A c t (postC X.prog X.w A R) (postE R) s
def Kr (X : Cx) (A : Around) (c : Code) (k : Result → Sem Fin) (R : Result → Shared → Prop) : Result → Shared → Prop := fun r s => Run X A c (k r) R s

def En (X : Cx) (F : Frm) (g : Gm) (T : Tr) (ρ : Nat → Addr) (tk : Nat) (Q : Shared → Prop) : Prop := ∀ h, HS F g T ρ h → Q (X.sh h tk)
def St (X : Cx) (F : Frm) (g : Gm) (T : Tr) (ρ : Nat → Addr) (tk : Nat) (d u : Nat) (c : Code) (t : Sem Fin) (R : Result → Shared → Prop) : Prop := En X F g T ρ tk (Run X (Ar d u) c t R)
def Cd (X : Cx) (F : Frm) (g : Gm) (T : Tr) (ρ : Nat → Addr) (tk : Nat) (d u : Nat) (c : Code) (R : Result → Shared → Prop) : Prop := En X F g T ρ tk (codeAny X.M (Ar d u) c R)

/-! looks at a tree -/
def hdLoad : Sem Fin → Option Addr
  | .load a _ _ => some a
  | _ => none
def kLoad : Sem Fin → Obj → Sem Fin
  | .load _ _ k, o => k o
  | t, _ => t
def hdAlive : Sem Fin → Option Addr
  | .loadIfAlive a _ => some a
  | _ => none
def kAlive : Sem Fin → Obj → Sem Fin
  | .loadIfAlive _ k, o => k (some o)
  | t, _ => t
def hdAlloc : Sem Fin → Option Obj
  | .alloc o _ => some o
  | _ => none
def kAlloc : Sem Fin → Addr → Sem Fin
  | .alloc _ k, a => k a
  | t, _ => t
def hdUpd : Sem Fin → Option Addr
  | .update a _ _ _ => some a
  | _ => none
def fUpd : Sem Fin → Obj → Obj
  | .update _ _ f _, o => f o
  | _, o => o
def kUpd : Sem Fin → Sem Fin
  | .update _ _ _ k => k ()
  | t => t
def hdFresh : Sem Fin → Bool
  | .fresh _ => true
  | _ => false
def kFresh : Sem Fin → Nat → Sem Fin
  | .fresh k, i => k i
  | t, _ => t
def hdHandled : Sem Fin → Bool
  | .handled false _ => true
  | _ => false
def kHandled : Sem Fin → Option Value → Sem Fin
  | .handled _ k, v => k v
  | t, _ => t
def hdStack : Sem Fin → Bool
  | .stack _ => true
  | _ => false
def kStack : Sem Fin → List (Code × Pos) → Sem Fin
  | .stack k, l => k l
  | t, _ => t
def hdCall : Sem Fin → Bool
  | .call _ none _ _ _ => true
  | _ => false
def cCall : Sem Fin → Code
  | .call c _ _ _ _ => c
  | _ => default
def kCall : Sem Fin → Result → Sem Fin
  | .call _ _ _ _ k, r => k r
  | t, _ => t
def hdAgain : Sem Fin → Bool
  | .pure (.again _) => true
  | _ => false
def cAgain : Sem Fin → Code
  | .pure (.again c) => c
  | _ => default
def hdDone : Sem Fin → Option Flow
  | .pure (.done f) => some f
  | _ => none
def hdRaise : Sem Fin → Option Value
  | .raise e => some e
  | _ => none
/-- the plain steps and the loads of what stands written in K -/
def adv (S : Setting) (K : KT) : Nat → Sem Fin → Sem Fin
  | 0, t => t
  | n + 1, .rule _ k => adv S K n (k ())
  | n + 1, .at _ k => adv S K n (k ())
  | n + 1, .point _ k => adv S K n (k ())
  | n + 1, .ask k => adv S K n (k S)
  | n + 1, .load a p k => match K.get a with
    | some o => adv S K n (k o)
    | none => .load a p k
  | _ + 1, t => t

def KIn (K : KT) (g : Gm) : Prop := ∀ a o, K.get a = some o → g a = some o
theorem KIn.mono {K : KT} {g g' : Gm} (x : KIn K g) (l : Le g g') : KIn K g' := fun a o e => l a o (x a o e)

section
variable {X : Cx} {F : Frm} {g : Gm} {T : Tr} {ρ : Nat → Addr} {tk d u : Nat} {c : Code} {R : Result → Shared → Prop}
theorem run_adv {A : Around} {K : KT} {h : Heap} (hk : ∀ a o, K.get a = some o → h.get? a = some o) : ∀ (n : Nat) (t : Sem Fin), Run X A c (adv X.S K n t) R (X.sh h tk) → Run X A c t R (X.sh h tk)
  | 0, _, x => x
  | n + 1, .rule tag k, x => y_skim _ _ _ _ _ _ _ _ _ 1 (run_adv hk n (k ()) x)
  | n + 1, .at q k, x => y_skim _ _ _ _ _ _ _ _ _ 1 (run_adv hk n (k ()) x)
  | n + 1, .point l k, x => y_skim _ _ _ _ _ _ _ _ _ 1 (run_adv hk n (k ()) x)
  | n + 1, .ask k, x => y_skim _ _ _ _ _ _ _ _ _ 1 (run_adv hk n (k X.S) x)
  | n + 1, .load a p k, x => by
    unfold adv at x
    cases e : K.get a with
    | none => rw [e] at x; exact x
    | some o =>
      rw [e] at x
      exact y_load _ _ _ _ _ _ _ _ _ _ _ _ _ _ _ _ (hk a o e) (run_adv hk n (k o) x)
  | _ + 1, .pure _, x => x
  | _ + 1, .raise _, x => x
  | _ + 1, .unsupported _, x => x
  | _ + 1, .finish _, x => x
  | _ + 1, .update .., x => x
  | _ + 1, .alloc .., x => x
  | _ + 1, .loadIfAlive .., x => x
  | _ + 1, .register .., x => x
  | _ + 1, .fresh _, x => x
  | _ + 1, .choose .., x => x
  | _ + 1, .os .., x => x
  | _ + 1, .call .., x => x
  | _ + 1, .handled .., x => x
  | _ + 1, .newGen .., x => x
  | _ + 1, .genState .., x => x
  | _ + 1, .resume .., x => x
  | _ + 1, .yield .., x => x
  | _ + 1, .stack _, x => x
  | _ + 1, .fork .., x => x
  | _ + 1, .thread _, x => x
  | _ + 1, .await .., x => x

theorem st_adv {K : KT} (hK : KIn K g) (n : Nat) {t : Sem Fin} (x : St X F g T ρ tk d u c (adv X.S K n t) R) : St X F g T ρ tk d u c t R :=
  fun h S => run_adv (fun a o e => S.vis a o (hK a o e)) n t (x h S)
theorem st_vis {t : Sem Fin} {a : Addr} {o : Obj} (hg : g a = some o) (e : hdLoad t = some a) (x : St X F g T ρ tk d u c (kLoad t o) R) : St X F g T ρ tk d u c t R := fun h S => by
  cases t <;> simp only [hdLoad, reduceCtorEq, Option.some.injEq] at e
  subst e
  exact y_load _ _ _ _ _ _ _ _ _ _ _ _ _ _ _ _ (S.vis _ o hg) (x h S)
theorem st_own {t : Sem Fin} {a : Addr} {o : Obj} (k : Nat) (hg : tget T k = some (a, o)) (e : hdLoad t = some a) (x : St X F g T ρ tk d u c (kLoad t o) R) : St X F g T ρ tk d u c t R := fun h S => by
  cases t <;> simp only [hdLoad, reduceCtorEq, Option.some.injEq] at e
  subst e
  exact y_load _ _ _ _ _ _ _ _ _ _ _ _ _ _ _ _ (S.own k _ hg).1 (x h S)
theorem st_alive_vis {t : Sem Fin} {a : Addr} {o : Obj} (hg : g a = some o) (e : hdAlive t = some a) (x : St X F g T ρ tk d u c (kAlive t o) R) : St X F g T ρ tk d u c t R := fun h S => by
  cases t <;> simp only [hdAlive, reduceCtorEq, Option.some.injEq] at e
  subst e
  exact y_alive _ _ _ _ _ _ _ _ _ _ _ _ _ _ _ (S.vis _ o hg) (x h S)
theorem st_alive_own {t : Sem Fin} {a : Addr} {o : Obj} (k : Nat) (hg : tget T k = some (a, o)) (e : hdAlive t = some a) (x : St X F g T ρ tk d u c (kAlive t o) R) : St X F g T ρ tk d u c t R := fun h S => by
  cases t <;> simp only [hdAlive, reduceCtorEq, Option.some.injEq] at e
  subst e
  exact y_alive _ _ _ _ _ _ _ _ _ _ _ _ _ _ _ (S.own k _ hg).1 (x h S)
theorem st_upd {t : Sem Fin} {a : Addr} {o o' : Obj} {T' : Tr} (k : Nat) (hg : tget T k = some (a, o)) (e : hdUpd t = some a) (eo : fUpd t o = o') (hf : o'.isFreed = false) (eT : tput T k (some (a, o')) = T')
    (x : St X F g T' ρ tk d u c (kUpd t) R) : St X F g T ρ tk d u c t R := fun h S => by
  cases t <;> simp only [hdUpd, reduceCtorEq, Option.some.injEq] at e
  subst e
  rename_i p f k'
  have eo : f o = o' := eo
  subst eo eT
  exact wpOwn_bind (m := updatePart _ p f) (f := k') (wpOwn_of_wpAny (wpAny_updatePart (S.own k _ hg).1 (x _ (S.update hg hf))))
theorem st_alloc {t : Sem Fin} {o : Obj} {T' : Tr} (n : Nat) (hn : tlen T = n) (e : hdAlloc t = some o) (hf : o.isFreed = false) (eT : tadd T (some (ρ n, o)) = T')
    (x : St X F g T' ρ tk d u c (kAlloc t (ρ n)) R) : St X F g T ρ tk d u c t R := fun h S => by
  cases t <;> simp only [hdAlloc, reduceCtorEq, Option.some.injEq] at e
  subst e
  subst eT
  rename_i o k'
  refine wpOwn_bind (m := alloc o) (f := k') (wpOwn_of_wpAny (wpAny_alloc ?_))
  have z := x _ (S.alloc hn hf)
  rw [S.here hn] at z
  exact z
theorem st_fresh {t : Sem Fin} {i j : Nat} (e : hdFresh t = true) (hj : i + 1 = j) (x : St X F g T ρ (tk + j) d u c (kFresh t (tk + i)) R) : St X F g T ρ (tk + i) d u c t R := fun h S => by
  cases t <;> simp only [hdFresh, reduceCtorEq, Bool.false_eq_true] at e
  subst hj
  exact y_fresh _ _ _ _ _ _ _ _ _ _ _ _ _ (x h S)
theorem st_handled {t : Sem Fin} (e : hdHandled t = true) (x : St X F g T ρ tk d u c (kHandled t none) R) : St X F g T ρ tk d u c t R := fun h S => by
  cases t <;> simp only [hdHandled, reduceCtorEq, Bool.false_eq_true] at e
  rename_i b k'
  cases b
  · exact y_handled _ _ _ _ _ _ _ _ _ (x h S)
  · simp at e
theorem st_stack {t : Sem Fin} (e : hdStack t = true) (x : ∀ (p : Pos) (below : List (Code × Pos)), Lies (Ar (d + c.weight) (u + c.cUnits)) ((c, p) :: below) → St X F g T ρ tk d u c (kStack t ((c, p) :: below)) R) : St X F g T ρ tk d u c t R := fun h S => by
  cases t <;> simp only [hdStack, reduceCtorEq, Bool.false_eq_true] at e
  exact y_stack _ _ _ _ _ _ _ _ _ fun p below l => x p below (under_Ar d u c ▸ l) h S
theorem st_call {t : Sem Fin} {d' u' : Nat} (e : hdCall t = true) (hd : d + c.weight = d') (hu : u + c.cUnits = u') (x : Cd X F g T ρ tk d' u' (cCall t) (Kr X (Ar d u) c (kCall t) R)) : St X F g T ρ tk d u c t R := fun h S => by
  cases t <;> simp only [hdCall, reduceCtorEq, Bool.false_eq_true] at e
  rename_i c' hh gd l k'
  cases hh
  · subst hd hu
    refine y_call _ _ _ _ _ _ _ _ _ _ _ _ _ (by intro q; cases q) ?_
    rw [mark_Ar' d u c]
    exact x h S
  · simp at e
where
  mark_Ar' (d u : Nat) (c : Code) : ((Ar d u).under c).mark none = Ar (d + c.weight) (u + c.cUnits) := by rw [under_Ar]; rfl
theorem st_again {t : Sem Fin} (e : hdAgain t = true) (hq : (cAgain t).quiet = true) (x : Cd X F g T ρ tk d u (cAgain t) R) : St X F g T ρ tk d u c t R := fun h S => by
  cases t <;> simp only [hdAgain, reduceCtorEq, Bool.false_eq_true] at e
  rename_i fin
  cases fin
  · simp at e
  · exact y_pure _ _ _ _ _ _ _ _ _ (y_again _ _ _ _ _ _ hq (x h S))
theorem st_done {t : Sem Fin} {f : Flow} (e : hdDone t = some f) (x : En X F g T ρ tk (R (.ok f))) : St X F g T ρ tk d u c t R := fun h S => by
  cases t <;> simp only [hdDone, reduceCtorEq] at e
  rename_i fin
  cases fin
  · simp only [Option.some.injEq] at e
    subst e
    exact y_pure _ _ _ _ _ _ _ _ _ (y_done _ _ _ _ _ _ (x h S))
  · simp at e
theorem st_raise {t : Sem Fin} {v : Value} (e : hdRaise t = some v) (x : En X F g T ρ tk (R (.error v))) : St X F g T ρ tk d u c t R := fun h S => by
  cases t <;> simp only [hdRaise, reduceCtorEq, Option.some.injEq] at e
  subst e
  exact y_raise _ _ _ _ _ _ _ _ _ (y_err _ _ _ (x h S))
theorem st_back {k : Result → Sem Fin} {r : Result} (x : St X F g T ρ tk d u c (k r) R) : En X F g T ρ tk (Kr X (Ar d u) c k R r) := x
theorem cd_go {c' : Code} (x : St X F g T ρ tk d u c' (denote table c') R) : Cd X F g T ρ tk d u c' R := fun h S => y_code _ _ _ _ _ _ (x h S)
theorem cd_den {c' : Code} {den : Code → Sem Fin} (e : denote table = den) (x : St X F g T ρ tk d u c' (den c') R) : Cd X F g T ρ tk d u c' R := cd_go (by rw [e]; exact x)
theorem en_freeze {Q : Shared → Prop} (k : Nat) {a : Addr} {o : Obj} {T' : Tr} (e : tget T k = some (a, o)) (hk : F.k₀ ≤ k) (eT : tput T k none = T') (x : ∀ g', Le g g' → g' a = some o → En X F g' T' ρ tk Q) : En X F g T ρ tk Q := fun h S => by
  subst eT
  exact x _ (updG_le (S.own k _ e).2.1) (updG_at ..) h (S.freeze e hk)
theorem st_eq {t t' : Sem Fin} (e : t = t') (x : St X F g T ρ tk d u c t' R) : St X F g T ρ tk d u c t R := e ▸ x
theorem st_bool {b b' : Bool} (B : Bool → Sem Fin) (e : b = b') (x : St X F g T ρ tk d u c (B b') R) : St X F g T ρ tk d u c (B b) R := by rw [e]; exact x
theorem st_true {p : Prop} (D : Decidable p → Sem Fin) (i : Decidable p) (hp : p) (x : St X F g T ρ tk d u c (D (.isTrue hp)) R) : St X F g T ρ tk d u c (D i) R := by
  have : i = .isTrue hp := Subsingleton.elim _ _
  rw [this]; exact x
theorem st_false {p : Prop} (D : Decidable p → Sem Fin) (i : Decidable p) (hp : ¬ p) (x : St X F g T ρ tk d u c (D (.isFalse hp)) R) : St X F g T ρ tk d u c (D i) R := by
  have : i = .isFalse hp := Subsingleton.elim _ _
  rw [this]; exact x
/-- a row of the world's: both ways are one behind some plain steps -/
theorem st_same {K : KT} (hK : KIn K g) (B : Bool → Sem Fin) (b : Bool) (n m : Nat) (e : adv X.S K n (B true) = adv X.S K m (B false)) (x : St X F g T ρ tk d u c (adv X.S K m (B false)) R) : St X F g T ρ tk d u c (B b) R := by
  cases b with
  | true => exact st_adv hK n (by rw [e]; exact x)
  | false => exact st_adv hK m x
/-- two addresses that the state holds apart -/
theorem st_apart {p : Prop} (D : Decidable p → Sem Fin) (i : Decidable p) (ap : ∀ h, HS F g T ρ h → ¬ p) (x : ∀ hp, St X F g T ρ tk d u c (D (.isFalse hp)) R) : St X F g T ρ tk d u c (D i) R := fun h S => by
  have hp := ap h S
  have : i = .isFalse hp := Subsingleton.elim _ _
  rw [this]; exact x hp h S
end

section
variable {X : Cx} {F : Frm} {g : Gm} {T : Tr} {ρ : Nat → Addr} {tk d u : Nat} {c : Code} {R : Result → Shared → Prop}
theorem st_row (B : Bool → Sem Fin) (b : Bool) (x : St X F g T ρ tk d u c (B true) R) (y : St X F g T ρ tk d u c (B false) R) : St X F g T ρ tk d u c (B b) R := by
  cases b with
  | true => exact x
  | false => exact y
theorem st_cases (B : Bool → Sem Fin) (b : Bool) (x : b = true → St X F g T ρ tk d u c (B true) R) (y : b = false → St X F g T ρ tk d u c (B false) R) : St X F g T ρ tk d u c (B b) R := by
  cases h : b with
  | true => exact x h
  | false => exact y h
theorem st_dec {p : Prop} (D : Decidable p → Sem Fin) (i : Decidable p) (x : ∀ h : p, St X F g T ρ tk d u c (D (.isTrue h)) R) (y : ∀ h : ¬ p, St X F g T ρ tk d u c (D (.isFalse h)) R) : St X F g T ρ tk d u c (D i) R := by
  cases i with
  | isTrue h => exact x h
  | isFalse h => exact y h
theorem st_ne {a b : Addr} (D : Decidable (a = b) → Sem Fin) (i : Decidable (a = b)) (ne : ∀ h, HS F g T ρ h → a ≠ b) (x : ∀ hp, St X F g T ρ tk d u c (D (.isFalse hp)) R) : St X F g T ρ tk d u c (D i) R := st_apart D i ne x
theorem en_ret {r r' : Result} (e : r = r') (x : En X F g T ρ tk (R r')) : En X F g T ρ tk (R r) := e ▸ x
end

theorem inj_of {T : Tr} {F : Frm} {g : Gm} {ρ : Nat → Addr} {h : Heap} (S : HS F g T ρ h) {k k' : Nat} {p p' : Addr × Obj} (e : tget T k = some p) (e' : tget T k' = some p') (ne : k ≠ k') : p.1 ≠ p'.1 := fun w => ne (S.inj k k' p p' e e' w)

theorem ne_own {T : Tr} {F : Frm} {g : Gm} {ρ : Nat → Addr} {k k' : Nat} {a b : Addr} {o o' : Obj} (e : tget T k = some (a, o)) (e' : tget T k' = some (b, o')) (ne : Nat.beq k k' = false) : ∀ h, HS F g T ρ h → a ≠ b := fun _ S => inj_of S e e' (Nat.ne_of_beq_eq_false ne)
theorem ne_vis {T : Tr} {F : Frm} {g : Gm} {ρ : Nat → Addr} {k : Nat} {a b : Addr} {o o' : Obj} (e : tget T k = some (a, o)) (e' : g b = some o') : ∀ h, HS F g T ρ h → a ≠ b := fun _ S w => by
  have := (S.own k _ e).2.1
  rw [show (a, o).1 = b from w, e'] at this
  cases this
theorem ne_vis' {T : Tr} {F : Frm} {g : Gm} {ρ : Nat → Addr} {k : Nat} {a b : Addr} {o o' : Obj} (e : tget T k = some (a, o)) (e' : g b = some o') : ∀ h, HS F g T ρ h → b ≠ a := fun h S w => ne_vis (k := k) e e' h S w.symm
/-- the kept entries in a new row -/
def pick (T : Tr) : List Nat → Tr
  | [] => []
  | k :: ks => tget T k :: pick T ks
theorem tget_pick (T : Tr) : ∀ (ks : List Nat) (j : Nat) (p : Addr × Obj), tget (pick T ks) j = some p → ∃ k, ks[j]? = some k ∧ tget T k = some p
  | [], _, _, e => nomatch e
  | k :: ks, 0, p, e => ⟨k, rfl, e⟩
  | k :: ks, j + 1, p, e => tget_pick T ks j p e
def packOk (k₀ : Nat) (ks : List Nat) : Bool := decide ks.Nodup && (ks.zipIdx.all fun p => decide (p.2 < k₀) == decide (p.1 < k₀))
theorem packOk_spec {k₀ : Nat} {ks : List Nat} (h : packOk k₀ ks = true) : ks.Nodup ∧ ∀ (j k : Nat), ks[j]? = some k → k₀ ≤ j → k₀ ≤ k := by
  obtain ⟨a, b⟩ := Bool.and_eq_true_iff.mp h
  refine ⟨of_decide_eq_true a, fun j k e hj => ?_⟩
  have m : (k, j) ∈ ks.zipIdx := by
    rw [List.mem_zipIdx_iff_getElem?]
    exact e
  have z := List.all_eq_true.mp b _ m
  have z := beq_iff_eq.mp z
  have : decide (j < k₀) = false := decide_eq_false (Nat.not_lt.mpr hj)
  rw [show (k, j).2 = j from rfl, show (k, j).1 = k from rfl, this] at z
  exact Nat.not_lt.mp (of_decide_eq_false z.symm)
theorem HS.pack {F : Frm} {g : Gm} {T : Tr} {ρ : Nat → Addr} {h : Heap} (S : HS F g T ρ h) {ks : List Nat} (nd : ks.Nodup) (k0 : ∀ (j k : Nat), ks[j]? = some k → F.k₀ ≤ j → F.k₀ ≤ k) :
    HS F g (pick T ks) (fun i => h.objs.size + (i - tlen (pick T ks))) h := by
  refine ⟨S.vis, S.hid, fun j p e => ?_, fun j j' p p' e e' w => ?_, fun _ _ => rfl, S.siz, S.old⟩
  · obtain ⟨k, hk, e⟩ := tget_pick T ks j p e
    have y := S.own k p e
    exact ⟨y.1, y.2.1, y.2.2.1, fun hj => y.2.2.2 (k0 j k hk hj)⟩
  · obtain ⟨k, hk, e⟩ := tget_pick T ks j p e
    obtain ⟨k', hk', e'⟩ := tget_pick T ks j' p' e'
    have : k = k' := S.inj k k' p p' e e' w
    subst this
    obtain ⟨hj, _⟩ := List.getElem?_eq_some_iff.mp hk
    exact (List.getElem?_inj hj nd).mp (hk.trans hk'.symm)
theorem en_pack {X : Cx} {F : Frm} {g : Gm} {T : Tr} {ρ : Nat → Addr} {tk : Nat} {Q : Shared → Prop} (ks : List Nat) (T' : Tr) (e : pick T ks = T') (nd : ks.Nodup) (k0 : ∀ (j k : Nat), ks[j]? = some k → F.k₀ ≤ j → F.k₀ ≤ k)
    (x : ∀ ρ', En X F g T' ρ' tk Q) : En X F g T ρ tk Q := fun h S => by
  subst e
  exact x _ h (S.pack nd k0)

theorem en_pack' {X : Cx} {F : Frm} {g : Gm} {T : Tr} {ρ : Nat → Addr} {tk : Nat} {Q : Shared → Prop} {k₀ : Nat} (hk : F.k₀ = k₀) (ks : List Nat) (T' : Tr) (e : pick T ks = T') (ok : packOk k₀ ks = true) (x : ∀ ρ', En X F g T' ρ' tk Q) : En X F g T ρ tk Q :=
  en_pack ks T' e (packOk_spec ok).1 (hk ▸ (packOk_spec ok).2) x

/-! a code's contract: nothing that stood is changed but what is named -/
def Ok (X : Cx) (g : Gm) (h : Heap) (tk d u : Nat) (c : Code) (Post : Gm → Result → Prop) : Prop :=
  ∀ R : Result → Shared → Prop, (∀ g' h' tk' r, Le g g' → Inh g' h' → (∀ b o, h.get? b = some o → h'.get? b = some o) → h.objs.size ≤ h'.objs.size → (∀ b, b < h.objs.size → g' b = g b) → Post g' r → R r (X.sh h' tk')) →
    codeAny X.M (Ar d u) c R (X.sh h tk)
/-- the contract at every heap that bears the seen part -/
def Pu (X : Cx) (g : Gm) (d u : Nat) (c : Code) (Post : Gm → Result → Prop) : Prop := ∀ h tk, Inh g h → Ok X g h tk d u c Post

theorem HS.on {F : Frm} {g g' : Gm} {T : Tr} {ρ : Nat → Addr} {h h' : Heap} (S : HS F g T ρ h) (hi : Inh g' h') (kp : ∀ b o, h.get? b = some o → h'.get? b = some o) (sz : h.objs.size ≤ h'.objs.size) (ol : ∀ b, b < h.objs.size → g' b = g b) :
    HS F g' T (fun i => h'.objs.size + (i - tlen T)) h' :=
  ⟨hi, fun b o q => kp b o (S.hid b o q), fun k p q => have y := S.own k p q; ⟨kp _ _ y.1, (ol _ (Heap.lt_size y.1)).trans y.2.1, y.2.2⟩, S.inj, fun _ _ => rfl, Nat.le_trans S.siz sz, fun b hb => (ol b (Nat.lt_of_lt_of_le hb S.siz)).trans (S.old b hb)⟩

section
variable {X : Cx} {F : Frm} {g : Gm} {T : Tr} {ρ : Nat → Addr} {tk d u : Nat} {c : Code} {R : Result → Shared → Prop} {Post : Gm → Result → Prop}
theorem cd_use (C : Pu X g d u c Post) (x : ∀ g' ρ' tk' r, Le g g' → Post g' r → En X F g' T ρ' tk' (R r)) : Cd X F g T ρ tk d u c R := fun h S =>
  C h tk S.vis R fun g' h' tk' r l hi kp sz ol hp => x g' _ tk' r l hp h' (S.on hi kp sz ol)
theorem pu_of (P : ∀ (F : Frm) (ρ : Nat → Addr) (tk : Nat) (R : Result → Shared → Prop), F.k₀ = 0 → (∀ g' T' ρ' tk' r, Le g g' → Post g' r → En X F g' T' ρ' tk' (R r)) → Cd X F g [] ρ (tk + 0) d u c R) : Pu X g d u c Post := fun h tk hg R K =>
  P ⟨h.get?, h.objs.size, g, 0⟩ (fun i => h.objs.size + i) tk R rfl
    (fun g' T' ρ' tk' r l hp h' S => K g' h' tk' r l S.vis S.hid S.siz S.old hp) h
    ⟨hg, fun _ _ e => e, fun k p e => (by cases k <;> exact nomatch e), fun k k' p p' e => (by cases k <;> exact nomatch e), fun i _ => by simp [tlen], Nat.le_refl _, fun _ _ => rfl⟩
theorem deep2 {d D k E L : Nat} (hd : d + D < L) (hk : Nat.ble (k + E) D = true) : Nat.add d k + E < L := by
  have := Nat.le_of_ble_eq_true hk
  show d + k + E < L
  omega
theorem Pu.mono {Post' : Gm → Result → Prop} (C : Pu X g d u c Post) (m : ∀ g' r, Le g g' → Post g' r → Post' g' r) : Pu X g d u c Post' := fun h tk hg R K =>
  C h tk hg R fun g' h' tk' r l hi kp sz ol hp => K g' h' tk' r l hi kp sz ol (m g' r l hp)
end

/-! a contract that changes one object -/
def PuL (X : Cx) (g : Gm) (d u : Nat) (c : Code) (a : Addr) (o : Obj) (Post : Gm → Obj → Result → Prop) : Prop :=
  ∀ h tk, Inh g h → h.get? a = some o → g a = none → ∀ R : Result → Shared → Prop,
    (∀ g' h' tk' r o', Le g g' → Inh g' h' → (∀ b x, b ≠ a → h.get? b = some x → h'.get? b = some x) → h'.get? a = some o' → h.objs.size ≤ h'.objs.size → (∀ b, b < h.objs.size → g' b = g b) → Post g' o' r → R r (X.sh h' tk')) →
    codeAny X.M (Ar d u) c R (X.sh h tk)
section
variable {X : Cx} {F : Frm} {g : Gm} {T : Tr} {ρ : Nat → Addr} {tk d u : Nat} {c : Code} {R : Result → Shared → Prop} {a : Addr} {o : Obj} {Post : Gm → Obj → Result → Prop}
theorem cd_useL (k : Nat) (e : tget T k = some (a, o)) (C : PuL X g d u c a o Post)
    (x : ∀ g' ρ' tk' r o', Le g g' → Post g' o' r → En X F g' (tput T k (some (a, o'))) ρ' tk' (R r)) : Cd X F g T ρ tk d u c R := fun h S => by
  have y := S.own k _ e
  refine C h tk S.vis y.1 y.2.1 R fun g' h' tk' r o' l hi kp ho sz ol hp => x g' (fun i => h'.objs.size + (i - tlen T)) tk' r o' l hp h' ?_
  refine ⟨hi, fun b x q => kp b x (fun w => by rw [w, y.2.2.1] at q; cases q) (S.hid b x q), fun j p q => ?_, fun j j' p p' q q' w => ?_, fun i hi => ?_, Nat.le_trans S.siz sz, fun b hb => (ol b (Nat.lt_of_lt_of_le hb S.siz)).trans (S.old b hb)⟩
  · rw [tget_tput] at q
    by_cases hj : j = k ∧ k < tlen T
    · rw [if_pos hj] at q
      cases q
      exact ⟨ho, (ol _ (Heap.lt_size y.1)).trans y.2.1, y.2.2.1, hj.1 ▸ y.2.2.2⟩
    · rw [if_neg hj] at q
      have z := S.own j p q
      have ne : p.1 ≠ a := fun w => hj ⟨S.inj j k p _ q e w, tget_lt e⟩
      exact ⟨kp _ _ ne z.1, (ol _ (Heap.lt_size z.1)).trans z.2.1, z.2.2⟩
  · have adr : ∀ {j : Nat} {p : Addr × Obj}, tget (tput T k (some (a, o'))) j = some p → ∃ p₀, tget T j = some p₀ ∧ p₀.1 = p.1 := fun {j p} q => by
      rw [tget_tput] at q
      by_cases hj : j = k ∧ k < tlen T
      · rw [if_pos hj] at q
        cases q
        exact ⟨(a, o), hj.1 ▸ e, rfl⟩
      · rw [if_neg hj] at q
        exact ⟨p, q, rfl⟩
    obtain ⟨p₀, q₀, w₀⟩ := adr q
    obtain ⟨p₁, q₁, w₁⟩ := adr q'
    exact S.inj j j' p₀ p₁ q₀ q₁ (w₀.trans (w.trans w₁.symm))
  · rw [tlen_tput]
theorem pul_of (P : ∀ (F : Frm) (ρ : Nat → Addr) (tk : Nat) (R : Result → Shared → Prop), F.k₀ = 1 → (∀ g' T' ρ' tk' r o', Le g g' → tget T' 0 = some (a, o') → Post g' o' r → En X F g' T' ρ' tk' (R r)) → Cd X F g [some (a, o)] ρ (tk + 0) d u c R) : PuL X g d u c a o Post := fun h tk hg ha hn R K => by
  refine P ⟨fun b => if b = a then none else h.get? b, h.objs.size, g, 1⟩ (fun i => h.objs.size + (i - 1)) tk R rfl
    (fun g' T' ρ' tk' r o' l e hp h' S => K g' h' tk' r o' l S.vis (fun b x ne q => S.hid b x ((if_neg ne).trans q)) (S.own 0 _ e).1 S.siz S.old hp) h ?_
  refine ⟨hg, fun b x q => ?_, fun k p e => ?_, fun k k' p p' e e' _ => ?_, fun i _ => rfl, Nat.le_refl _, fun _ _ => rfl⟩
  · by_cases w : b = a
    · exact absurd ((if_pos w).symm.trans q) (by intro z; cases z)
    · exact (if_neg w).symm.trans q
  · cases k with
    | zero => cases e; exact ⟨ha, hn, if_pos rfl, fun w => absurd w (Nat.not_succ_le_zero 0)⟩
    | succ k => cases k <;> exact nomatch e
  · cases k with
    | zero => cases k' with
      | zero => rfl
      | succ k' => cases k' <;> exact nomatch e'
    | succ k => cases k <;> exact nomatch e
theorem en_obj {Q : Shared → Prop} {o' o'' : Obj} (k : Nat) (e : o' = o'') (x : En X F g (tput T k (some (a, o''))) ρ tk Q) : En X F g (tput T k (some (a, o'))) ρ tk Q := e ▸ x
end

/-! built-ins by the library's summaries -/
theorem codeAny_meets {prog : Program} {w : World} {A : Around} {s : Shared} {T : String} {name : Str} {id : String} {B : Builtin} {self : Value} {rest : List Value} {S : PySem.Spec} {R : Result → Shared → Prop} (slot : Slot T name id) (hT : s.TypeIs self T)
    (entry : entryFor table id = some B) (args : argsOk id ⟨self :: rest, []⟩) (m : Meets (B ⟨self :: rest, []⟩) S) (h : S A R s) : codeAny (model prog w) A (.call (.builtin id) ⟨self :: rest, []⟩) R s :=
  codeAny_call_builtin slot.plain entry (slot.check _ _ _ _ _ _ _ _ hT args (m prog w A R s h))
def lstO (vs : List Value) (n : Nat) : Obj := ⟨.type "list", none, .seq ⟨vs⟩ n, #[]⟩
def tupO (vs : List Value) : Obj := ⟨.type "tuple", none, .seq ⟨vs⟩ 0, #[]⟩
theorem list_add_ok (X : Cx) (g : Gm) (d u : Nat) (a b : Addr) (xs ys : List Value) (m n : Nat) (ha : g a = some (lstO xs m)) (hb : g b = some (lstO ys n)) (hl : xs.length + ys.length ≤ 100000) :
    Pu X g d u (.call (.builtin "list.__add__") ⟨[.ref a, .ref b], []⟩) (fun g' r => ∃ c, r = .ok (.ret (.ref c)) ∧ g' c = some (lstO (xs ++ ys) 0)) := fun h tk hg R K => by
  have h1 := hg _ _ ha
  have h2 := hg _ _ hb
  have hs : (⟨xs⟩ : Array Value).size + (⟨ys⟩ : Array Value).size ≤ sizeLine := by
    show xs.length + ys.length ≤ 2 ^ 24
    omega
  refine codeAny_meets F.slot_list_add (Heap.IsList.typeIs ⟨_, h1, rfl, m, rfl⟩) F.entry_list_add (F.args_list_add_2 _ _) (AutoSeq1.list___add___list_list_0 a ⟨xs⟩ m b ⟨ys⟩ n hs) ⟨h1, h2, ?_⟩
  have e : (⟨xs⟩ : Array Value) ++ ⟨ys⟩ = ⟨xs ++ ys⟩ := by simp
  rw [e]
  refine K (updG g h.objs.size (lstO (xs ++ ys) 0)) _ tk _ (updG_le (none_of_size hg (Nat.le_refl _))) (fun b x q => ?_) (fun b x q => Heap.get?_push_of_some _ q) (by rw [Heap.size_push]; exact Nat.le_succ _) (fun b hb => if_neg (Nat.ne_of_lt hb)) ⟨_, rfl, updG_at ..⟩
  by_cases w : b = h.objs.size
  · subst w
    rw [updG_at] at q
    cases q
    exact Heap.get?_push_size _ rfl
  · have : updG g h.objs.size (lstO (xs ++ ys) 0) b = g b := if_neg w
    rw [this] at q
    exact Heap.get?_push_of_some _ (hg b x q)
def ins (C : Nat) (d : Addr) : Obj := ⟨.ref C, some d, .plain, #[]⟩
def dct (es : List DictEntry) (n : Nat) : Obj := ⟨.type "dict", none, .dict ⟨es⟩ n, #[]⟩
def key (h : Int) (t : Nat) (x : String) (v : Value) : DictEntry := ⟨h, .str (Str.ofString x) t, v⟩
end Mine

/-! Driver -/
namespace Mine
open Lean Meta Elab Tactic PySem PySem.W PySem.W.X

/-! the twin of the machine -/
def denTac : TacticM Unit := do
  let g ← getMainGoal
  let e := mkApp (mkConst ``denote) (mkConst ``table)
  let some (e', _) ← ZFast.quick e | throwError "no twin"
  g.assign e'
  replaceMainGoal []
noncomputable def den : Code → Sem Fin := by run_tac denTac
def denEqTac : TacticM Unit := do
  let g ← getMainGoal
  let e := mkApp (mkConst ``denote) (mkConst ``table)
  let some (_, h) ← ZFast.quick e | throwError "no twin"
  g.assign h
  replaceMainGoal []
theorem den_eq : denote table = den := by run_tac denEqTac

structure Wd where
  w : World
  gs : Array GenState
  d : Drawn
  os : OsState
abbrev cx (y : Wd) : Cx := ⟨PySem.Challenge.pw_ft0028_01, y.w, y.gs, y.d, y.os⟩
noncomputable abbrev tops (y : Wd) : KT := top y.w.params

theorem deep {d D k L : Nat} (hd : d + D < L) (hk : Nat.ble k D = true) : Nat.add d k < L :=
  Nat.lt_of_le_of_lt (Nat.add_le_add_left (Nat.le_of_ble_eq_true hk) d) hd

theorem k0_le {k j i : Nat} (e : k = j) (h : Nat.ble j i = true) : k ≤ i := e ▸ Nat.le_of_ble_eq_true h
def wordNames : List Name := [``lstO, ``tupO, `Mine.ins, `Mine.dct, `Mine.key, `Mine.liO, `Mine.liE, `Mine.stopO]
def openWords (e : Lean.Expr) : MetaM Lean.Expr := do
  let e ← deltaExpand e fun n => wordNames.contains n
  Core.betaReduce e
/-- written texts alone in the twin's form -/
def quickTexts (e : Lean.Expr) : MetaM (Option (Lean.Expr × Lean.Expr)) := do
  let mut ds := #[]
  for x in ZFast.constsOf e do
    if x.isLambda then continue
    if let some s := ZFast.isAtom x then
      let (y, h) ← ZFast.atomTwin x s
      ds := ds.push (x, y, h)
    else if let some s := ZFast.isStrLit x then
      let (y, h) ← ZFast.litTwin x s
      ds := ds.push (x, y, h)
  if ds.isEmpty then return none
  return some (← ZFast.turned e ds)
structure Wait where
  k : Lean.Expr
  kP : Lean.Expr
  di : Nat
  ui : Nat
  c : Lean.Expr
  cP : Lean.Expr
  R : Lean.Expr

inductive Pc where
  | app (f : Lean.Expr)
  | lam (f : Lean.Expr) (xs : Array Lean.Expr)

structure Ds where
  y : Lean.Expr
  X : Lean.Expr
  F : Lean.Expr
  g : Lean.Expr
  ρ : Lean.Expr
  tk : Lean.Expr
  d : Lean.Expr
  u : Lean.Expr
  hK : Lean.Expr
  hd : Lean.Expr
  hu : Lean.Expr
  dMax : Nat
  uMax : Nat
  T : Array (Option (Lean.Expr × Lean.Expr))
  ti : Nat
  di : Nat
  ui : Nat
  c : Lean.Expr
  cP : Lean.Expr
  t : Lean.Expr
  tP : Lean.Expr
  R : Lean.Expr
  stk : List Wait := []
  g₀ : Lean.Expr
  le : Lean.Expr
  preds : Array (Lean.Expr × Lean.Expr) := #[]
  facts : Std.HashMap Lean.Expr (Lean.Expr × Lean.Expr) := {}
  lies : Option Lean.Expr := none
  trail : List String := []
  used : List Name := []
  loops : Bool := false
  atRange : Bool := false
  tKw : Nat := 0
  tStep : Nat := 0
  objEq : Option (Lean.Expr × Lean.Expr) := none
  n : Nat := 0
  pf : Array Pc := #[]
  steps : Nat := 0

def kw (e : Lean.Expr) : MetaM Lean.Expr := do ofExceptKernelException (Kernel.whnf (← getEnv) (← getLCtx) e)
def natT : Lean.Expr := mkConst ``Nat
def natFn : Lean.Expr := .forallE `i natT natT .default
def eqE (ty a b : Lean.Expr) : Lean.Expr := mkApp3 (mkConst ``Eq [1]) ty a b
def addE (a : Lean.Expr) (n : Nat) : Lean.Expr := mkApp2 (mkConst ``Nat.add) a (mkRawNatLit n)
def addH (a : Lean.Expr) (n : Nat) : Lean.Expr := mkApp6 (mkConst ``HAdd.hAdd [0, 0, 0]) natT natT natT (mkApp2 (mkConst ``instHAdd [0]) natT (mkConst ``instAddNat)) a (mkNatLit n)
def boolT : Lean.Expr := mkConst ``Bool
def reflE (ty v : Lean.Expr) : Lean.Expr := mkApp2 (mkConst ``Eq.refl [1]) ty v
def reflB : Lean.Expr := reflE boolT (mkConst ``Bool.true)
def someT (ty v : Lean.Expr) : Lean.Expr := mkApp2 (mkConst ``Option.some [0]) ty v
def noneT (ty : Lean.Expr) : Lean.Expr := mkApp (mkConst ``Option.none [0]) ty
def objT : Lean.Expr := mkConst ``Obj
def entT : Lean.Expr := mkApp2 (mkConst ``Prod [0, 0]) natT objT
def entE (p : Lean.Expr × Lean.Expr) : Lean.Expr := mkApp4 (mkConst ``Prod.mk [0, 0]) natT objT p.1 p.2
def optE (p : Option (Lean.Expr × Lean.Expr)) : Lean.Expr := match p with | none => noneT entT | some p => someT entT (entE p)
def trE (T : Array (Option (Lean.Expr × Lean.Expr))) : Lean.Expr := T.foldr (fun p r => mkApp3 (mkConst ``List.cons [0]) (mkApp (mkConst ``Option [0]) entT) (optE p) r) (mkApp (mkConst ``List.nil [0]) (mkApp (mkConst ``Option [0]) entT))
def Ds.TE (s : Ds) : Lean.Expr := trE s.T
def Ds.tkE (s : Ds) : Lean.Expr := addE s.tk s.ti
def Ds.dE (s : Ds) : Lean.Expr := addE s.d s.di
def Ds.uE (s : Ds) : Lean.Expr := addE s.u s.ui
def Ds.setting (s : Ds) : Lean.Expr := mkApp (mkConst ``Cx.S) s.X
def Ds.kt (s : Ds) : Lean.Expr := mkApp (mkConst ``tops) s.y
def Ds.params (s : Ds) : Lean.Expr := mkApp (mkConst ``World.params) (mkApp (mkConst ``Wd.w) s.y)
/-- X F g T ρ tk d u c R -/
def Ds.args (s : Ds) : Array Lean.Expr := #[s.X, s.F, s.g, s.TE, s.ρ, s.tkE, s.dE, s.uE, s.cP, s.R]
def Ds.push (s : Ds) (f : Lean.Expr) : Ds := { s with pf := s.pf.push (.app f) }
def Ds.stTy (s : Ds) : Lean.Expr := mkAppN (mkConst ``St) #[s.X, s.F, s.g, s.TE, s.ρ, s.tkE, s.dE, s.uE, s.cP, s.tP, s.R]

/-- lay the plain steps that wait -/
def Ds.flush (s : Ds) : Ds :=
  if s.n == 0 then s else
    let m := mkRawNatLit s.n
    let s' := s.push (mkAppN (mkConst ``st_adv) (s.args ++ #[s.kt, s.hK, m, s.tP]))
    { s' with tP := mkAppN (mkConst ``adv) #[s.setting, s.kt, m, s.tP], n := 0 }

def litOf (a : Lean.Expr) : Option Nat := match a with | .lit (.natVal n) => some n | _ => a.rawNatLit?

def topAt (y : Lean.Expr) (a : Nat) : MetaM (Option Lean.Expr) := do
  let e := mkApp2 (mkConst ``KT.get) (mkApp (mkConst ``tops) y) (mkRawNatLit a)
  let e ← kw e
  return if e.isAppOfArity ``Option.some 2 then some e.appArg! else none

/-- a list written out to its end -/
def written (e : Lean.Expr) : Bool := Id.run do
  let mut e := e
  for _ in [0:1000] do
    if e.isAppOfArity ``List.cons 3 then e := e.appArg!
    else return e.isAppOfArity ``List.nil 1
  return false
/-- the text of a string, a literal or its twin -/
def textOf (e : Lean.Expr) : MetaM (Option String) := do
  match e with
  | .lit (.strVal s) => return some s
  | _ =>
    let v ← kw e
    if let .lit (.strVal s) := v then return some s
    unless v.isAppOf ``String.ofByteArray do return none
    let b ← kw v.getAppArgs[0]!
    let a ← kw b.getAppArgs[0]!
    unless a.isAppOfArity ``Array.mk 2 do return none
    let l ← listOf (← PySem.W.XRun.nList a.appArg! pure) 1000
    return some (String.ofList (← l.mapM fun x => do
      if x.isAppOf ``PySem.W.S.mk8 then if let some n := litOf x.getAppArgs[0]! then return Char.ofNat n
      return Char.ofNat ((litOf (← kw (mkApp (mkConst ``UInt8.toNat) x))).getD 63)))
def nBool (b : Lean.Expr) : MetaM Lean.Expr := do
  if b.isAppOfArity ``Bool.rec 4 then
    let a := b.getAppArgs
    let (f, t) := (← kw a[1]!, ← kw a[2]!)
    if f.isConstOf ``Bool.true && t.isConstOf ``Bool.false then return mkApp (mkConst ``Bool.not) a[3]!
    if f.isConstOf ``Bool.false && t.isConstOf ``Bool.true then return a[3]!
  return b
/-- a text in the twin's form, if it is written out -/
def nStr (x : Lean.Expr) : MetaM Lean.Expr := do
  let v ← kw x
  unless v.isAppOfArity ``PySem.Str.mk 1 do return x
  let c ← kw v.appArg!
  unless c.isAppOfArity ``Array.mk 2 do return x
  let l ← PySem.W.XRun.nList c.appArg! kw
  unless written l do return x
  return mkApp v.appFn! (mkApp c.appFn! l)
def nValue (e : Lean.Expr) : MetaM Lean.Expr := do
  let v ← kw e
  if v.isAppOfArity ``Value.str 2 then return mkApp2 v.appFn!.appFn! (← nStr v.appFn!.appArg!) v.appArg!
  if v.isAppOfArity ``Value.type 1 then
    match ← textOf v.appArg! with
    | some t => if t == "" then return v else return mkApp v.appFn! (← ZFast.litTwin (mkStrLit t) t).1
    | none => return v
  if v.isAppOfArity ``Value.bool 1 then return mkApp v.appFn! (← nBool (← kw v.appArg!))
  if v.isAppOfArity ``Value.ref 1 then return mkApp v.appFn! (← kw v.appArg!)
  return v
def nFlow (e : Lean.Expr) : MetaM Lean.Expr := do
  let v ← kw e
  if v.isAppOfArity ``Flow.ret 1 then return mkApp v.appFn! (← nValue v.appArg!)
  return v

def nEntry (e : Lean.Expr) : MetaM Lean.Expr := do
  let e ← kw e
  unless e.isAppOfArity ``DictEntry.mk 3 do return e
  let a := e.getAppArgs
  let k₀ ← kw a[1]!
  let k ← nValue k₀
  let h := if k₀.isAppOfArity ``Value.str 2 && k.isAppOfArity ``Value.str 2 then
      let (x, y) := (k₀.appFn!.appArg!, k.appFn!.appArg!)
      a[0]!.replace fun z => if z == x then some y else none
    else a[0]!
  return mkApp3 e.getAppFn h k (← nValue a[2]!)
/-- the spine of a list as far as it is written out; an open rest stays as it was said -/
def nSeqList (f : Lean.Expr → MetaM Lean.Expr) : Nat → Lean.Expr → MetaM Lean.Expr
  | 0, e => pure e
  | n + 1, e => do
    let v ← kw e
    if v.isAppOfArity ``List.cons 3 then return mkApp (mkApp v.appFn!.appFn! (← f v.appFn!.appArg!)) (← nSeqList f n v.appArg!)
    if v.isAppOfArity ``List.nil 1 || v.getAppFn.isFVar then return v
    return e
def nArrK (e : Lean.Expr) (f : Lean.Expr → MetaM Lean.Expr) : MetaM Lean.Expr := do
  let v ← kw e
  if v.isAppOfArity ``Array.mk 2 then return mkApp v.appFn! (← nSeqList f 5000 v.appArg!)
  return e
def nObj (e : Lean.Expr) : MetaM Lean.Expr := do
  let e ← kw e
  unless e.isAppOfArity ``Obj.mk 4 do return e
  let a := e.getAppArgs
  let dt ← kw a[2]!
  let x := dt.getAppArgs
  let dt ← match dt.getAppFn.constName? with
    | some ``PySem.Data.dict => pure (mkApp2 dt.getAppFn (← PySem.W.XRun.nArr x[0]! nEntry) (← kw x[1]!))
    | some ``PySem.Data.seq => pure (mkApp2 dt.getAppFn (← nArrK x[0]! nValue) (← kw x[1]!))
    | some ``PySem.Data.fields => pure (mkApp dt.getAppFn (← PySem.W.XRun.nArr x[0]! nValue))
    | _ => pure dt
  let dd ← kw a[1]!
  let dd ← if dd.isAppOfArity ``Option.some 2 then pure (mkApp dd.appFn! (← kw dd.appArg!)) else pure dd
  return mkApp4 (mkConst ``Obj.mk) (← nValue a[0]!) dd dt a[3]!

structure Level where
  ctx : Lean.Expr → Lean.Expr
  raw : Lean.Expr
  val : Lean.Expr
  kind : Name
  dep : Bool := false
/-- the chain of the stuck majors -/
def chain : Nat → Lean.Expr → MetaM (List Level)
  | 0, _ => return []
  | fuel + 1, e => do
    match e.getAppFn with
    | .const n _ =>
      match (← getEnv).find? n with
      | some (.recInfo r) =>
        let args := e.getAppArgs
        let i := r.getMajorIdx
        if h : i < args.size then
          let raw := args[i]
          let M ← kw raw
          let here (y : Lean.Expr) : Lean.Expr := mkAppN e.getAppFn (args.set! i y)
          let rest ← chain fuel M
          let dep := match args[r.numParams]? with | some (.lam _ _ b _) => b.hasLooseBVar 0 | _ => true
          return ⟨here, raw, M, n, dep⟩ :: rest.map fun l => { l with ctx := fun y => here (l.ctx y) }
        else return []
      | _ => return []
    | .proj S k b =>
      if b.isConst then return []
      let M ← kw b
      let here (y : Lean.Expr) : Lean.Expr := mkAppN (.proj S k y) e.getAppArgs
      let rest ← chain fuel M
      return ⟨here, b, M, `proj, false⟩ :: rest.map fun l => { l with ctx := fun y => here (l.ctx y) }
    | _ => return []

theorem dec_yes {p : Prop} (f : Decidable p → Bool) (i : Decidable p) (h : p) {b : Bool} (e : f (.isTrue h) = b) : f i = b := by
  have : i = .isTrue h := Subsingleton.elim _ _
  rw [this]; exact e
theorem dec_no {p : Prop} (f : Decidable p → Bool) (i : Decidable p) (h : ¬ p) {b : Bool} (e : f (.isFalse h) = b) : f i = b := by
  have : i = .isFalse h := Subsingleton.elim _ _
  rw [this]; exact e
theorem bool_is (f : Bool → Bool) {x c b : Bool} (h : x = c) (e : f c = b) : f x = b := by rw [h]; exact e
theorem ne_true {E : Bool} (h : E = false) : ¬ (E = true) := by rw [h]; exact Bool.false_ne_true

/-- a decision on a Bool -/
def boolDec (l : Level) : MetaM (Option (Lean.Expr × Lean.Expr)) := do
  unless l.kind == ``Decidable.rec do return none
  let dT ← whnfR (← inferType l.raw)
  unless dT.isAppOfArity ``Decidable 1 do return none
  let p ← whnfR dT.appArg!
  let some (ty, a, b) := p.eq? | return none
  unless (← whnfD ty).isConstOf ``Bool do return none
  unless (← kw b).isConstOf ``Bool.true do return none
  return some (p, a)
def firstBoolDec (ls : List Level) : MetaM (Option (Level × Lean.Expr × Lean.Expr)) := do
  let ls := ls.filter fun l => (l.kind == ``Bool.rec && !l.dep) || l.kind == ``Decidable.rec
  let n := ls.length
  let mut i := 0
  for l in ls do
    if i + 1 < n then
      if let some (p, e) ← boolDec l then return some (l, p, e)
    i := i + 1
  return none
def knownBool (b : Lean.Expr) : MetaM (Option (Bool × Lean.Expr)) := do
  for d in ← getLCtx do
    if d.isImplementationDetail then continue
    if let some (ty, lhs, rhs) := (← instantiateMVars d.type).eq? then
      if ty.isConstOf ``Bool then
        if rhs.isConstOf ``Bool.true && lhs == b then return some (true, d.toExpr)
        if rhs.isConstOf ``Bool.false && lhs == b then return some (false, d.toExpr)
  return none
def knownProp (p : Lean.Expr) : MetaM (Option (Bool × Lean.Expr)) := do
  if let some (ty, a, b) := p.eq? then
    if (← kw a) == (← kw b) then return some (true, reflE ty a)
  let np := mkApp (mkConst ``Not) p
  for d in ← getLCtx do
    if d.isImplementationDetail then continue
    let ty ← instantiateMVars d.type
    unless ← isProp ty do continue
    if ty.isAppOf ``Eq && p.isAppOf ``Eq then
      if ← isDefEq ty p then return some (true, d.toExpr)
    else if ty.isAppOfArity ``Not 1 || ty.isAppOfArity ``Ne 3 then
      if ← isDefEq ty np then return some (false, d.toExpr)
  return none
/-- a Bool's value by what the context says: b and the proof of E = b -/
def boolBy : Nat → Lean.Expr → MetaM (Option (Bool × Lean.Expr))
  | 0, _ => return none
  | fuel + 1, E => do
    let Ek ← kw E
    if Ek.isConstOf ``Bool.true then return some (true, reflE boolT (mkConst ``Bool.true))
    if Ek.isConstOf ``Bool.false then return some (false, reflE boolT (mkConst ``Bool.false))
    let ls ← chain 60 Ek
    let some l := (ls.filter fun l => (l.kind == ``Bool.rec && !l.dep) || l.kind == ``Decidable.rec).getLast? | return none
    let bE (b : Bool) := mkConst (if b then ``Bool.true else ``Bool.false)
    let viaDec (l : Level) (p : Lean.Expr) (b : Bool) (h : Lean.Expr) : MetaM (Option (Bool × Lean.Expr)) := do
      let v := mkApp2 (mkConst (if b then ``Decidable.isTrue else ``Decidable.isFalse)) p h
      let some (c, q) ← boolBy fuel (l.ctx v) | return none
      let f := Lean.Expr.lam `i (mkApp (mkConst ``Decidable) p) (l.ctx (.bvar 0)) .default
      return some (c, mkAppN (mkConst (if b then ``dec_yes else ``dec_no)) #[p, f, l.raw, h, bE c, q])
    match ← firstBoolDec ls with
    | some (l0, p0, e0) =>
      let some (b0, h0) ← boolBy fuel e0 | return none
      viaDec l0 p0 b0 (if b0 then h0 else mkApp2 (mkConst ``ne_true) e0 h0)
    | none =>
      if l.kind == ``Decidable.rec then
        let dT ← whnfR (← inferType l.raw)
        unless dT.isAppOfArity ``Decidable 1 do return none
        let p := dT.appArg!
        let some (b, h) ← knownProp p | return none
        viaDec l p b h
      else if l.kind == ``Bool.rec then
        let v ← nBool l.val
        let some (b, h) ← knownBool v | return none
        let some (c, q) ← boolBy fuel (l.ctx (bE b)) | return none
        let f := Lean.Expr.lam `i boolT (l.ctx (.bvar 0)) .default
        return some (c, mkAppN (mkConst ``bool_is) #[f, l.raw, bE b, bE c, h, q])
      else return none

def opaqueOf (e : Lean.Expr) : Option Name := match e.getAppFn with
  | .proj _ _ (.const n _) => some n
  | _ => none

def semT : Lean.Expr := mkApp (mkConst ``Sem) (mkConst ``PySem.Fin)

def keyOf (c : Lean.Expr) : MetaM (Option Lean.Expr) := do
  if c.isAppOfArity ``Code.call 2 then
    let f ← kw c.appFn!.appArg!
    if f.isAppOfArity ``Value.ref 1 then
      let a ← kw f.appArg!
      return (litOf a).map mkRawNatLit
    if f.isAppOfArity ``Value.builtin 1 then return (← textOf f.appArg!).map mkStrLit
    return none
  else return none
/-- weight and units of a code -/
def codeNums (c cP : Lean.Expr) : MetaM (Nat × Nat) := do
  match c.getAppFn.constName? with
  | some ``Code.call => return (0, 1)
  | some ``Code.func | some ``Code.expr | some ``Code.body => return (1, 3)
  | some ``Code.block | some ``Code.handlers | some ``Code.whileLoop | some ``Code.forLoop => return (0, 0)
  | some ``Code.builtin =>
    if let some t ← textOf c.appFn!.appArg! then
      let a ← kw c.appArg!
      let l ← kw a.getAppArgs[0]!
      let ref ← (if l.isAppOfArity ``List.cons 3 then do return (← kw l.getAppArgs[1]!).isAppOf ``Value.ref else return false)
      let cv : Code := .builtin t ⟨if ref then [.ref 0] else [], []⟩
      return (cv.weight, cv.cUnits)
    else throwError "a built-in without a name"
  | _ =>
    let w ← kw (mkApp (mkConst ``Code.weight) c)
    let u ← kw (mkApp (mkConst ``Code.cUnits) c)
    match litOf w, litOf u with
    | some w, some u => return (w, u)
    | _, _ => throwError "weight of {c}"

inductive Stop where
  | done (r : Lean.Expr)
  | stack
  | call (c : Lean.Expr)
  | loop (c : Lean.Expr)
  | way (l : Level)
  | stuck (m : MessageData)

/-- a Bool that stands in the way, its value and why -/
def Ds.decide (s : Ds) (l : Level) (b : Bool) (h : Lean.Expr) : MetaM Ds := do
  let bE := mkConst (if b then ``Bool.true else ``Bool.false)
  let B := Lean.Expr.lam `b boolT ((l.ctx (.bvar 0))) .default
  let s := s.flush
  let s := s.push (mkAppN (mkConst ``st_bool) (s.args ++ #[l.val, bE, B, h]))
  let t := l.ctx bE
  return { s with t := t, tP := t }

def isRow (e : Lean.Expr) : Bool := match e with
  | .app (.proj n _ _) _ => n == ``Params
  | _ => false
def Ds.objAt (s : Ds) (a : Lean.Expr) : Option Lean.Expr :=
  match s.T.findSome? (fun p => match p with | some (b, o) => if b == a then some o else none | none => none) with
  | some o => some o
  | none => (s.facts[a]?).map (·.1)
def refOf? (v : Lean.Expr) : Option Lean.Expr := if v.isAppOfArity ``Value.ref 1 then some v.appArg! else none
/-- an iterator over something that is not written out -/
def Ds.openIter (s : Ds) (fuel : Nat) (v : Lean.Expr) : MetaM Bool := match fuel with
  | 0 => return false
  | fuel + 1 => do
    let v ← kw v
    let some a := refOf? v | return false
    let a ← kw a
    if (litOf a).isSome then return false
    let some o := s.objAt a | return true
    let dt ← kw o.getAppArgs[2]!
    let cl := o.getAppArgs[0]!
    if cl.isAppOfArity ``Value.type 1 then
      if let some nm ← textOf cl.appArg! then
        if nm.startsWith "dict" then return false
        if nm == "range_iterator" then
          let dt ← kw o.getAppArgs[2]!
          if dt.isAppOfArity ``Data.fields 1 then
            let xs ← kw dt.appArg!
            if xs.isAppOfArity ``Array.mk 2 then
              for x in (← listOf xs.appArg! 20) do
                let x ← kw x
                if x.isAppOfArity ``Value.int 2 then
                  let n ← kw x.appFn!.appArg!
                  unless n.isAppOfArity ``Int.ofNat 1 && (litOf (← kw n.appArg!)).isSome || n.isAppOfArity ``Int.negSucc 1 do return true
          return false
    match dt.getAppFn.constName? with
    | some ``Data.seq =>
      let xs ← kw dt.getAppArgs[0]!
      unless xs.isAppOfArity ``Array.mk 2 do return true
      return !written (← PySem.W.XRun.nList xs.appArg! pure)
    | some ``Data.fields =>
      let xs ← kw dt.getAppArgs[0]!
      unless xs.isAppOfArity ``Array.mk 2 do return true
      for x in (← listOf xs.appArg! 20) do
        if ← s.openIter fuel x then return true
      return false
    | _ => return false
def Ds.loopStop (s : Ds) (c : Lean.Expr) : MetaM Bool := do
  if c.isAppOfArity ``Code.forLoop 5 then
    if s.loops then return true
    s.openIter 4 c.getAppArgs[1]!
  else if c.isAppOfArity ``Code.compLoop 5 then s.openIter 4 c.getAppArgs[2]!
  else if s.atRange && c.isAppOfArity ``Code.call 2 then
    let f ← kw c.appFn!.appArg!
    if f.isAppOfArity ``Value.type 1 then return (← textOf f.appArg!) == some "range"
    return false
  else if c.isAppOfArity ``Code.builtin 2 && s.loops then
    return (← textOf c.appFn!.appArg!) == some "all.loop"
  else return false

/-- one step; none: it stops -/
def Ds.step (s : Ds) (stopCall : Lean.Expr → MetaM Bool) : MetaM (Ds × Option Stop) := do
  let z0 ← IO.monoNanosNow
  let t ← kw s.t
  let z1 ← IO.monoNanosNow
  let s := { s with t := t, steps := s.steps + 1, tKw := s.tKw + (z1 - z0) }
  let nm := match t.getAppFn with | .const n _ => n | _ => .anonymous
  let as := t.getAppArgs
  match nm with
  | ``Sem.rule | ``Sem.at | ``Sem.point => return ({ s with t := mkApp as.back! (mkConst ``Unit.unit), n := s.n + 1 }, none)
  | ``Sem.ask => return ({ s with t := mkApp as.back! s.setting, n := s.n + 1 }, none)
  | ``Sem.load =>
    let a ← kw as[1]!
    match litOf a with
    | some v =>
      match ← topAt s.y v with
      | some o => return ({ s with t := mkApp as.back! o, n := s.n + 1 }, none)
      | none => return (s, some (.stuck m!"load: nothing written at {v}"))
    | none =>
      match s.T.findIdx? (fun p => match p with | some (b, _) => b == a | none => false) with
      | some i =>
        let some (some (b, o)) := s.T[i]? | return (s, some (.stuck "T"))
        let s := s.flush
        let s := s.push (mkAppN (mkConst ``st_own) (s.args ++ #[s.tP, b, o, mkRawNatLit i, reflE (mkApp (mkConst ``Option [0]) entT) (someT entT (entE (b, o))), reflE (mkApp (mkConst ``Option [0]) natT) (someT natT b)]))
        return ({ s with t := mkApp as.back! o, tP := mkApp2 (mkConst ``kLoad) s.tP o }, none)
      | none =>
        match s.facts[a]? with
        | some (o, h) =>
          let s := s.flush
          let s := s.push (mkAppN (mkConst ``st_vis) (s.args ++ #[s.tP, a, o, h, reflE (mkApp (mkConst ``Option [0]) natT) (someT natT a)]))
          return ({ s with t := mkApp as.back! o, tP := mkApp2 (mkConst ``kLoad) s.tP o }, none)
        | none => return (s, some (.stuck m!"load: no fact of {a}"))
  | ``Sem.loadIfAlive =>
    let a ← kw as[1]!
    let someO (o : Lean.Expr) : Lean.Expr := mkApp2 (mkConst ``Option.some [0]) objT o
    match s.T.findIdx? (fun p => match p with | some (b, _) => b == a | none => false) with
    | some i =>
      let some (some (b, o)) := s.T[i]? | return (s, some (.stuck "T"))
      let s := s.flush
      let s := s.push (mkAppN (mkConst ``st_alive_own) (s.args ++ #[s.tP, b, o, mkRawNatLit i, reflE (mkApp (mkConst ``Option [0]) entT) (someT entT (entE (b, o))), reflE (mkApp (mkConst ``Option [0]) natT) (someT natT b)]))
      return ({ s with t := mkApp as.back! (someO o), tP := mkApp2 (mkConst ``kAlive) s.tP o }, none)
    | none =>
      match s.facts[a]? with
      | some (o, h) =>
        let s := s.flush
        let s := s.push (mkAppN (mkConst ``st_alive_vis) (s.args ++ #[s.tP, a, o, h, reflE (mkApp (mkConst ``Option [0]) natT) (someT natT a)]))
        return ({ s with t := mkApp as.back! (someO o), tP := mkApp2 (mkConst ``kAlive) s.tP o }, none)
      | none => return (s, some (.stuck m!"alive: no fact of {a}"))
  | ``Sem.alloc =>
    let o ← nObj as[1]!
    let s := s.flush
    let n := s.T.size
    let nE := mkRawNatLit n
    let a := mkApp s.ρ nE
    let T' := s.T.push (some (a, o))
    let T'E := trE T'
    let s := s.push (mkAppN (mkConst ``st_alloc) (s.args ++ #[s.tP, o, T'E, nE, reflE natT nE, reflE (mkApp (mkConst ``Option [0]) objT) (someT objT o), reflE boolT (mkConst ``Bool.false), reflE (mkConst ``Tr) T'E]))
    return ({ s with T := T', t := mkApp as.back! a, tP := mkApp2 (mkConst ``kAlloc) s.tP a }, none)
  | ``Sem.update =>
    let a ← kw as[1]!
    match s.T.findIdx? (fun p => match p with | some (b, _) => b == a | none => false) with
    | some i =>
      let some (some (b, o)) := s.T[i]? | return (s, some (.stuck "T"))
      let o' ← nObj (mkApp as[3]! o)
      let s := s.flush
      let T' := s.T.set! i (some (b, o'))
      let T'E := trE T'
      let s' := s.push (mkAppN (mkConst ``st_upd) (s.args ++ #[s.tP, b, o, o', T'E, mkRawNatLit i, reflE (mkApp (mkConst ``Option [0]) entT) (someT entT (entE (b, o))), reflE (mkApp (mkConst ``Option [0]) natT) (someT natT b), reflE objT o', reflE boolT (mkConst ``Bool.false), reflE (mkConst ``Tr) T'E]))
      return ({ s' with T := T', t := mkApp as.back! (mkConst ``Unit.unit), tP := mkApp (mkConst ``kUpd) s.tP }, none)
    | none => return (s, some (.stuck m!"update: not the call's own: {a}; trail {s.trail.take 8}"))
  | ``Sem.fresh =>
    let s := s.flush
    let j := mkRawNatLit (s.ti + 1)
    let s := s.push (mkAppN (mkConst ``st_fresh) (#[s.X, s.F, s.g, s.TE, s.ρ, s.tk, s.dE, s.uE, s.cP, s.R, s.tP, mkRawNatLit s.ti, j, reflB, reflE natT j]))
    return ({ s with t := mkApp as.back! s.tkE, tP := mkApp2 (mkConst ``kFresh) s.tP s.tkE, ti := s.ti + 1 }, none)
  | ``Sem.handled =>
    let s := s.flush
    let s := s.push (mkAppN (mkConst ``st_handled) (s.args ++ #[s.tP, reflB]))
    let v := noneT (mkConst ``Value)
    return ({ s with t := mkApp as.back! v, tP := mkApp2 (mkConst ``kHandled) s.tP v }, none)
  | ``Sem.call =>
    let c' ← kw as[1]!
    let s := s.flush
    if ← s.loopStop c' then return (s, some (.loop c'))
    let s ← (do
      let w ← (do match ← keyOf c' with
        | some (.lit (.strVal t)) => pure t
        | some (.lit (.natVal t)) => pure s!"def {t}"
        | _ => pure s!"{c'.getAppFn.constName?}")
      return { s with trail := w :: s.trail } : MetaM Ds)
    if ← stopCall c' then return (s, some (.call c'))
    let (w, v) ← codeNums s.c s.cP
    let d' := addE s.d (s.di + w)
    let u' := addE s.u (s.ui + v)
    let s' := s.push (mkAppN (mkConst ``st_call) (s.args ++ #[s.tP, d', u', reflB, reflE natT d', reflE natT u']))
    let kP := mkApp (mkConst ``kCall) s.tP
    let cP' := mkApp (mkConst ``cCall) s.tP
    let wt : Wait := { k := as.back!, kP := kP, di := s.di, ui := s.ui, c := s.c, cP := s.cP, R := s.R }
    let R' := mkAppN (mkConst ``Kr) #[s.X, mkApp2 (mkConst ``Ar) s.dE s.uE, s.cP, kP, s.R]
    let s' := { s' with stk := wt :: s.stk, di := s.di + w, ui := s.ui + v, c := c', cP := cP', R := R' }
    let tP := mkApp (mkConst ``den) cP'
    let s' := s'.push (mkAppN (mkConst ``cd_den) (#[s'.X, s'.F, s'.g, s'.TE, s'.ρ, s'.tkE, s'.dE, s'.uE, s'.R, cP', mkConst ``den, mkConst ``den_eq]))
    return ({ s' with t := mkApp (mkConst ``den) c', tP := tP }, none)
  | ``Sem.pure =>
    let fin ← kw as[1]!
    let s := s.flush
    if fin.isAppOfArity ``PySem.Fin.done 1 then
      let f ← nFlow fin.appArg!
      let r := mkApp3 (mkConst ``Except.ok [0, 0]) (mkConst ``Value) (mkConst ``Flow) f
      let s := s.push (mkAppN (mkConst ``st_done) (s.args ++ #[s.tP, f, reflE (mkApp (mkConst ``Option [0]) (mkConst ``Flow)) (someT (mkConst ``Flow) f)]))
      match s.stk with
      | [] => return (s, some (.done r))
      | wt :: stk =>
        return ({ s with stk := stk, di := wt.di, ui := wt.ui, c := wt.c, cP := wt.cP, R := wt.R, t := mkApp wt.k r, tP := mkApp wt.kP r }, none)
    else if fin.isAppOfArity ``PySem.Fin.again 1 then
      let c' ← kw fin.appArg!
      if ← s.loopStop c' then return (s, some (.loop c'))
      let cP' := mkApp (mkConst ``cAgain) s.tP
      let s := s.push (mkAppN (mkConst ``st_again) (s.args ++ #[s.tP, reflB, reflB]))
      let s := { s with c := c', cP := cP' }
      let s := s.push (mkAppN (mkConst ``cd_den) (#[s.X, s.F, s.g, s.TE, s.ρ, s.tkE, s.dE, s.uE, s.R, cP', mkConst ``den, mkConst ``den_eq]))
      return ({ s with t := mkApp (mkConst ``den) c', tP := mkApp (mkConst ``den) cP' }, none)
    else return (s, some (.stuck m!"an end: {fin}"))
  | ``Sem.raise =>
    let v ← nValue as[1]!
    let s := s.flush
    let r := mkApp3 (mkConst ``Except.error [0, 0]) (mkConst ``Value) (mkConst ``Flow) v
    let s := s.push (mkAppN (mkConst ``st_raise) (s.args ++ #[s.tP, v, reflE (mkApp (mkConst ``Option [0]) (mkConst ``Value)) (someT (mkConst ``Value) v)]))
    match s.stk with
    | [] => return (s, some (.done r))
    | wt :: stk => return ({ s with stk := stk, di := wt.di, ui := wt.ui, c := wt.c, cP := wt.cP, R := wt.R, t := mkApp wt.k r, tP := mkApp wt.kP r }, none)
  | ``Sem.stack => return (s, some .stack)
  | _ =>
    let ls ← chain 60 t
    for l in ls.reverse do
      match opaqueOf l.val with
      | some o =>
        if [``oNear, ``oOver, ``oWarm, ``oRoom].contains o then
          let some lies := s.lies | return (s, some (.stuck "no stack"))
          let as := l.val.getAppArgs
          let (w, v) ← codeNums s.c s.cP
          let h ← if o == ``oRoom then
              pure (mkAppN (mkConst ``Lies.room) #[mkApp2 (mkConst ``Ar) (addE s.d (s.di + w)) (addE s.u (s.ui + v)), as[0]!, lies, mkAppN (mkConst ``deep) #[s.u, mkRawNatLit s.uMax, mkRawNatLit (s.ui + v), mkConst ``cLine, s.hu, reflB]])
            else
              pure (mkAppN (mkConst (if o == ``oNear then ``Lies.near' else if o == ``oOver then ``Lies.over else ``Lies.warm)) #[mkApp2 (mkConst ``Ar) (addE s.d (s.di + w)) (addE s.u (s.ui + v)), as[0]!, lies, mkAppN (mkConst ``deep) #[s.d, mkRawNatLit s.dMax, mkRawNatLit (s.di + w), mkConst ``recursionLimit, s.hd, reflB], as[1]!])
          return (← s.decide l false h, none)
      | none => pure ()
    let ls' := ls.filter fun l => (l.kind == ``Bool.rec && !l.dep) || l.kind == ``Decidable.rec
    if let some l := ls'.getLast? then
      return (s, some (.way l))
    if let some l := ls.getLast? then
      if l.kind == ``Bool.rec && l.val.isFVar then
        return (s, some (.way { l with ctx := fun y => t.replaceFVar l.val y, raw := l.val, dep := false }))
    let m ← ls.mapM fun l => do return m!"{l.kind}: {← ppExpr l.raw} ⇝ {l.val.getAppFn}"
    let hyps := (← getLCtx).foldl (fun (a : Array MessageData) d => if d.userName.eraseMacroScopes == `way then a.push m!"{d.type}" else a) #[]
    return (s, some (.stuck m!"stuck at {t.getAppFn} {if t.isAppOf ``Sem.unsupported then m!"{as[1]!}" else m!""}; {m.getLast?.getD "nothing"}; ways {hyps}; trail {s.trail.take 6}\n{ls.map (·.kind)}"))

def posT : Lean.Expr := mkConst ``Pos
def cpT : Lean.Expr := mkApp2 (mkConst ``Prod [0, 0]) (mkConst ``Code) posT
def assemble (pf : Array Pc) (e : Lean.Expr) : MetaM Lean.Expr := pf.foldrM (fun p e => match p with
  | .app f => pure (mkApp f e)
  | .lam f xs => return mkApp f (← mkLambdaFVars xs e)) e

/-- the addresses that a term names -/
def refsIn (e : Lean.Expr) : Array Lean.Expr := Id.run do
  let mut seen : Std.HashSet Lean.Expr := {}
  let mut out := #[]
  let mut todo := #[e]
  for _ in [0:1000000] do
    if todo.isEmpty then break
    let x := todo.back!
    todo := todo.pop
    if seen.contains x then continue
    seen := seen.insert x
    if x.isAppOfArity ``Value.ref 1 then out := out.push x.appArg!
    else if x.isAppOfArity ``Option.some 2 && (x.appFn!.appArg!.isConstOf ``Nat || x.appFn!.appArg!.isConstOf ``Addr) then out := out.push x.appArg!
    else match x with
      | .app f a => todo := (todo.push f).push a
      | _ => pure ()
  return out
/-- the own objects that are reached from a term -/
def Ds.reach (s : Ds) (e : Lean.Expr) (but : List Lean.Expr) : Array Nat := Id.run do
  let mut out : Array Nat := #[]
  let mut todo := refsIn e
  let mut seen : Std.HashSet Lean.Expr := {}
  for _ in [0:10000] do
    if todo.isEmpty then break
    let a := todo.back!
    todo := todo.pop
    if seen.contains a || but.contains a then continue
    seen := seen.insert a
    for h : i in [0:s.T.size] do
      if let some (b, o) := s.T[i] then
        if b == a then
          out := out.push i
          todo := todo ++ refsIn o
  return out
def leT (a b : Lean.Expr) : Lean.Expr := mkApp2 (mkConst ``Le) a b
def Ds.raise (s : Ds) (g' le : Lean.Expr) : MetaM Ds := do
  let hK := mkAppN (mkConst ``KIn.mono) #[s.kt, s.g, g', s.hK, le]
  let le' := mkAppN (mkConst ``Le.trans) #[s.g₀, s.g, g', s.le, le]
  let facts : Std.HashMap Lean.Expr (Lean.Expr × Lean.Expr) := s.facts.fold (fun m a (o, h) => m.insert a (o, mkApp3 le a o h)) {}
  let mut preds := #[]
  for (ty, h) in s.preds do
    let ty' := ty.replace fun x => if x == s.g then some g' else none
    let .const n _ := ty.getAppFn | continue
    let pf ← mkAppM (n ++ `mono) #[le, h]
    preds := preds.push (ty', pf)
  return { s with g := g', hK := hK, le := le', facts := facts, preds := preds }
/-- what a new fact says -/
def Ds.note (s : Ds) (ty h : Lean.Expr) : MetaM Ds := do
  match ty.eq? with
  | some (_, lhs, rhs) =>
    if lhs.isApp && lhs.appFn! == s.g && rhs.isAppOfArity ``Option.some 2 then
      let o ← openWords rhs.appArg!
      let (o', h) ← match ← quickTexts o with
        | some (o', e) => pure (o', ← mkEqTrans h (← mkCongrArg (mkApp (mkConst ``Option.some [0]) objT) e))
        | none => pure (o, h)
      return { s with facts := s.facts.insert (← kw lhs.appArg!) (o', h) }
    else return s
  | none =>
    if ty.isApp && ty.getAppFn.isConst && (ty.find? (· == s.g)).isSome && !ty.isAppOf ``KIn && !ty.isAppOf ``Le && !ty.isAppOf ``Pu then
      if (← getEnv).contains (ty.getAppFn.constName! ++ `mono) then return { s with preds := s.preds.push (ty, h) }
    return s
/-- lay the own objects of some numbers into the seen part -/
def Ds.freeze (hk0 : Lean.Expr) : List Nat → Ds → (Ds → TacticM Lean.Expr) → TacticM Lean.Expr
  | [], s, k => k s
  | i :: is, s, k => do
    let some (some (a, o)) := s.T[i]? | k s
    let T' := s.T.set! i none
    let T'E := trE T'
    let gT := mkConst ``Gm
    let body ← withLocalDeclD `g gT fun g' => withLocalDeclD `le (leT s.g g') fun le => withLocalDeclD `hz (eqE (mkApp (mkConst ``Option [0]) objT) (mkApp g' a) (someT objT o)) fun hf => do
      let s' ← s.raise g' le
      let s' := { s' with T := T', facts := s'.facts.insert a (o, hf), pf := #[] }
      mkLambdaFVars #[g', le, hf] (← Ds.freeze hk0 is s' k)
    let Q ← (if s.tP.isAppOf ``En then pure s.tP.appArg! else pure (mkAppN (mkConst ``Run) #[s.X, mkApp2 (mkConst ``Ar) s.dE s.uE, s.cP, s.tP, s.R]))
    let hk := mkApp2 hk0 (mkRawNatLit i) reflB
    return mkAppN (mkConst ``en_freeze) #[s.X, s.F, s.g, s.TE, s.ρ, s.tkE, Q, mkRawNatLit i, a, o, T'E, reflE (mkApp (mkConst ``Option [0]) entT) (someT entT (entE (a, o))), hk, reflE (mkConst ``Tr) T'E, body]

/-- the texts of a term as they are written in a statement, and the proof -/
def plainTexts (e : Lean.Expr) : MetaM (Lean.Expr × Option Lean.Expr) := do
  let mut seen : Std.HashSet Lean.Expr := {}
  let mut todo := #[e]
  let mut ds : Array (Lean.Expr × Lean.Expr × Lean.Expr) := #[]
  for _ in [0:1000000] do
    if todo.isEmpty then break
    let x := todo.back!
    todo := todo.pop
    if seen.contains x || x.hasLooseBVars then continue
    seen := seen.insert x
    match x with
    | .const n _ =>
      if n.getPrefix == `PySem.W.SZ then
        if let some t ← textOf x then
          let (_, h) ← ZFast.litTwin (mkStrLit t) t
          ds := ds.push (x, mkStrLit t, ← mkEqSymm h)
    | .app f a =>
      if x.isAppOfArity ``PySem.Str.mk 1 && a.isAppOfArity ``Array.mk 2 && written a.appArg! then
        let cs := (← listOf a.appArg! 1000).map litOf
        if cs.all Option.isSome then
          let t := String.ofList (cs.map fun c => Char.ofNat (c.getD 63))
          let (y, h) ← ZFast.atomTwin (mkApp (mkConst ``PySem.Str.ofString) (mkStrLit t)) t
          if y == x then
            ds := ds.push (x, mkApp (mkConst ``PySem.Str.ofString) (mkStrLit t), ← mkEqSymm h)
            continue
      todo := (todo.push f).push a
    | .lam _ d b _ => todo := (todo.push d).push b
    | _ => pure ()
  if ds.isEmpty then return (e, none)
  let G ← ZFast.withLocals (← ds.mapM fun d => inferType d.1).toList #[] fun xs => do
    mkLambdaFVars xs (e.replace fun x => (ds.findIdx? fun d => d.1 == x).map fun i => xs[i]!)
  let mut pf ← mkEqRefl G
  for (_, _, h) in ds do pf ← mkCongr pf h
  let e' := e.replace fun x => (ds.find? fun d => d.1 == x).map (·.2.1)
  return (e', some pf)
/-- a fact in plain words -/
def plainFact (g a o h : Lean.Expr) : MetaM (Lean.Expr × Lean.Expr) := do
  let oT := mkApp (mkConst ``Option [0]) objT
  let (o', pf) ← plainTexts o
  let ty := eqE oT (mkApp g a) (someT objT o')
  match pf with
  | none => return (ty, h)
  | some pf => return (ty, ← mkEqTrans h (← mkCongrArg (mkApp (mkConst ``Option.some [0]) objT) pf))
structure Tools where
  specs : Array (Lean.Expr × Lean.Expr) := #[]     -- key, contract
  once : List Name := []
  dec : Bool := false
  halt : List Nat := []
  loops : Bool := false
  prem : TacticM Unit
  hk0 : Lean.Expr
  leaf : Ds → Stop → TacticM Lean.Expr

def nArgs (c : Lean.Expr) : MetaM Lean.Expr := do
  if c.isAppOfArity ``Code.call 2 || c.isAppOfArity ``Code.builtin 2 then
    let a ← kw c.appArg!
    unless a.isAppOfArity ``Args.mk 2 do return c
    let l ← PySem.W.XRun.nList a.getAppArgs[0]! nValue
    let k ← kw a.getAppArgs[1]!
    let f ← if c.isAppOfArity ``Code.call 2 then nValue c.appFn!.appArg! else kw c.appFn!.appArg!
    return mkApp2 c.appFn!.appFn! f (mkApp2 (mkConst ``Args.mk) l k)
  else return c

/-- a premise of a contract -/
def premise (W : Tools) (s : Ds) (ty : Lean.Expr) : TacticM (Option Lean.Expr) := do
  let ty ← instantiateMVars ty
  if ty.isAppOfArity ``KIn 2 then return some s.hK
  if ty.isAppOfArity ``LT.lt 4 then
    let a := ty.getAppArgs
    let (lhs, D) := addLit' a[2]!
    let isD := a[3]!.isConstOf ``recursionLimit
    let isU := a[3]!.isConstOf ``cLine
    if isD || isU then
      let (b, k) := addLit' lhs
      let (base, mx, h) := if isD then (s.d, s.dMax, s.hd) else (s.u, s.uMax, s.hu)
      if b == base && k + D ≤ mx then
        return some (mkAppN (mkConst ``deep2) #[base, mkRawNatLit mx, mkRawNatLit k, mkRawNatLit D, a[3]!, h, reflB])
  for (t, h) in s.preds.reverse do
    let sv ← saveState
    if ← withReducible (isDefEq ty t) then return some h
    sv.restore
  if let some (_, lhs, rhs) := ty.eq? then
    if lhs.isApp && lhs.appFn! == s.g && rhs.isAppOfArity ``Option.some 2 then
      if let some (o, h) := s.facts[← instantiateMVars lhs.appArg!]? then
        if ← withReducible (isDefEq rhs.appArg! o) then return some h
  let m ← mkFreshExprSyntheticOpaqueMVar ty
  let sv ← saveState
  try
    -- what is known, as hypotheses
    let mut g := m.mvarId!
    let mut away := #[]
    for d in ← getLCtx do
      if d.isImplementationDetail then continue
      let ty ← instantiateMVars d.type
      if ty.isAppOf ``Lies || (ty.find? fun x => x.isConstOf ``En).isSome then away := away.push d.fvarId
    g ← g.tryClearMany away
    for (t, h) in s.preds do
      g ← g.assert `hp t h
      (_, g) ← g.intro1P
    if (ty.find? (· == s.g)).isSome then
      for (a, (o, h)) in s.facts.toList do
        let (ty, h) ← plainFact s.g a o h
        g ← g.assert `hf ty h
        (_, g) ← g.intro1P
    let r ← Tactic.run g (withoutRecover W.prem)
    if r.isEmpty then return some (← instantiateMVars m)
    sv.restore
    return none
  catch _ =>
    sv.restore
    return none
where
  addLit' (e : Lean.Expr) : Lean.Expr × Nat :=
    if e.isAppOfArity ``HAdd.hAdd 6 then
      let a := e.getAppArgs
      match (match a[5]! with | .lit (.natVal n) => some n | x => if x.isAppOfArity ``OfNat.ofNat 3 then litOf x.getAppArgs[1]! else none) with
      | some n => (a[4]!, n)
      | none => (e, 0)
    else if e.isAppOfArity ``Nat.add 2 then
      match litOf e.appArg! with
      | some n => (e.appFn!.appArg!, n)
      | none => (e, 0)
    else (e, 0)

/-- open what a contract's end tells: the result, and what holds of it -/
def unfoldPost (s : Ds) (r : Lean.Expr) (R : Lean.Expr) (fuel : Nat) (ty h : Lean.Expr) (e : Option (Lean.Expr × Lean.Expr)) (obj : Option Lean.Expr) (k : Ds → Option (Lean.Expr × Lean.Expr) → TacticM Lean.Expr) : TacticM Lean.Expr := match fuel with
  | 0 => k s e
  | fuel + 1 => do
    let ty := (← instantiateMVars ty).headBeta
    let ty' ← whnfR ty
    if ty'.isAppOfArity ``Exists 2 then
      let .lam n d b bi := ty'.appArg! | k s e
      let body ← withLocalDeclD n d fun x => withLocalDeclD `h (b.instantiate1 x) fun hx => do
        mkLambdaFVars #[x, hx] (← unfoldPost s r R fuel (b.instantiate1 x) hx e obj k)
      let goal := mkAppN (mkConst ``En) #[s.X, s.F, s.g, s.TE, s.ρ, s.tkE, mkApp R r]
      let us := ty'.getAppFn.constLevels!
      return mkAppN (mkConst ``Exists.elim us) #[d, ty'.appArg!, goal, h, body]
    else if ty'.isAppOfArity ``And 2 then
      let a := ty'.getAppArgs
      unfoldPost s r R fuel a[0]! (mkAppN (mkConst ``And.left) #[a[0]!, a[1]!, h]) e obj fun s e =>
        unfoldPost s r R fuel a[1]! (mkAppN (mkConst ``And.right) #[a[0]!, a[1]!, h]) e obj k
    else match ty'.eq? with
      | some (_, lhs, rhs) =>
        if lhs == r then k s (some (rhs, h))
        else if some lhs == obj then k { s with objEq := some (rhs, h) } e
        else do
          let body ← withLocalDeclD `h ty' fun hx => do
            let s ← s.note ty' hx
            mkLambdaFVars #[hx] (← k s e)
          return mkApp body h
      | none => do
        let body ← withLocalDeclD `h ty fun hx => do
          let s ← s.note ty hx
          mkLambdaFVars #[hx] (← k s e)
        return mkApp body h

def Ds.sameAs (a b : Ds) : Bool := a.t == b.t && a.T == b.T && a.ti == b.ti && a.stk.length == b.stk.length && a.R == b.R

/-- the step that stands for both ways of a row that meet at p and q -/
def rowJoin (s : Ds) (B v : Lean.Expr) (p q : Ds) : MetaM Ds := do
  let p := p.flush
  let q := q.flush
  let sJ := { q with tP := q.t, pf := #[], cP := q.cP }
  let hole ← withLocalDeclD `meet sJ.stTy fun G => do
    let x ← assemble p.pf G
    let y ← assemble q.pf G
    mkLambdaFVars #[G] (mkAppN (mkConst ``st_row) (s.args ++ #[B, v, x, y]))
  return { sJ with pf := s.pf.push (.app hole) }
/-- two ways that meet again: the states where they do -/
def meets (stopCall : Lean.Expr → MetaM Bool) : Nat → Ds → Ds → Nat → Nat → MetaM (Option (Ds × Ds))
  | dp, a, b, na, nb => do
    let stepR (s : Ds) : MetaM (Ds × Option Stop) := do
      let (s', r) ← s.step stopCall
      match r, dp with
      | some (.way l), dp + 1 =>
        if isRow l.val && l.kind == ``Bool.rec then
          let s' := s'.flush
          let B := Lean.Expr.lam `b boolT (l.ctx (.bvar 0)) .default
          let at_ (b : Name) : Ds := let t := l.ctx (mkConst b); { s' with t := t, tP := t, pf := #[] }
          match ← meets stopCall dp (at_ ``Bool.true) (at_ ``Bool.false) 12 120 with
          | some (p, q) => return (← rowJoin s' B l.val p q, none)
          | none => return (s', r)
        else return (s', r)
      | _, _ => return (s', r)
    let mut ps := #[]
    let mut qs := #[]
    let mut p := { a with t := ← kw a.t }
    let mut q := { b with t := ← kw b.t }
    let mut (pOn, qOn) := (true, true)
    let mut (i, j) := (0, 0)
    ps := ps.push p
    qs := qs.push q
    if p.sameAs q then return some (p, q)
    for _ in [0:na + nb] do
      if !pOn && !qOn then break
      if qOn then
        if j ≥ nb then qOn := false
        else
          let (q', r) ← stepR q
          if r.isSome then qOn := false
          else
            q := { q' with t := ← kw q'.t }
            j := j + 1
            qs := qs.push q
            for x in ps do if x.sameAs q then return some (x, q)
      if pOn then
        if i ≥ na then pOn := false
        else
          let (p', r) ← stepR p
          if r.isSome then pOn := false
          else
            p := { p' with t := ← kw p'.t }
            i := i + 1
            ps := ps.push p
            for x in qs do if p.sameAs x then return some (p, x)
    return none
termination_by dp => dp

/-- the walk -/
def go (W : Tools) : Nat → Ds → TacticM Lean.Expr
  | 0, s => do assemble s.pf (← W.leaf s (.stuck "fuel"))
  | fuel + 1, s => do
    let stopCall (c : Lean.Expr) : MetaM Bool := do
      let some k ← keyOf c | return false
      return W.specs.any (·.1 == k)
    let z0 ← IO.monoNanosNow
    let (s, r) ← s.step stopCall
    let z1 ← IO.monoNanosNow
    let s := { s with tStep := s.tStep + (z1 - z0) }
    let (z0, z1) := (z0 / 1000000, z1 / 1000000)
    let r ← (do
      if W.halt.isEmpty || !W.once.all s.used.contains then return r
      match r with
      | some (.call c') => match ← keyOf c' with
        | some (.lit (.natVal n)) => return if W.halt.contains n then some (Stop.loop c') else r
        | _ => return r
      | _ => return r : MetaM (Option Stop))
    match r with
    | none => go W fuel s
    | some .stack => do
      let s := s.flush
      let ar := mkApp2 (mkConst ``Ar) (mkApp2 (mkConst ``Nat.add) s.dE (mkApp (mkConst ``Code.weight) s.cP)) (mkApp2 (mkConst ``Nat.add) s.uE (mkApp (mkConst ``Code.cUnits) s.cP))
      let body ← withLocalDeclD `p posT fun p => withLocalDeclD `below (mkApp (mkConst ``List [0]) cpT) fun b => do
        let st := mkApp3 (mkConst ``List.cons [0]) cpT (mkApp4 (mkConst ``Prod.mk [0, 0]) (mkConst ``Code) posT s.cP p) b
        withLocalDeclD `l (mkApp2 (mkConst ``Lies) ar st) fun l => do
          let s' := { s with pf := #[], t := mkApp s.t.getAppArgs.back! st, tP := mkApp2 (mkConst ``kStack) s.tP st, lies := some l }
          mkLambdaFVars #[p, b, l] (← go W fuel s')
      assemble s.pf (mkAppN (mkConst ``st_stack) (s.args ++ #[s.tP, reflB, body]))
    | some (.call c') => do
      let z0 ← IO.monoMsNow
      let c' ← nArgs c'
      let some k ← keyOf c' | throwError "key"
      let but ← (do
        let mut but := #[]
        for (k', spec) in W.specs do
          if k' != k then continue
          let sv ← saveState
          let (_, _, ty) ← forallMetaTelescope (← instantiateMVars (← inferType spec))
          if ty.isAppOfArity ``PuL 8 then
            let plainC := match k with
              | .lit (.strVal _) => mkApp2 c'.appFn!.appFn! (mkApp (mkConst ``Value.builtin) k) c'.appArg!
              | _ => c'
            if ← isDefEq plainC ty.getAppArgs[4]! then
              but := but.push (← instantiateMVars ty.getAppArgs[5]!)
          sv.restore
        return but.toList : TacticM (List Lean.Expr))
      let fits ← (do
        match k with
        | .lit (.strVal _) =>
          for (k', spec) in W.specs do
            if k' != k then continue
            let sv ← saveState
            let (_, _, ty) ← forallMetaTelescope (← instantiateMVars (← inferType spec))
            let plainC := mkApp2 c'.appFn!.appFn! (mkApp (mkConst ``Value.builtin) k) c'.appArg!
            let ok ← isDefEq plainC (if ty.isAppOfArity ``PuL 8 then ty.getAppArgs[4]! else ty.appFn!.appArg!)
            sv.restore
            if ok then return true
          return false
        | _ => return true : TacticM Bool)
      if !fits then
        let (s', r) ← s.step fun _ => pure false
        if r.isSome then throwError "a call without a contract: {c'}"
        return ← go W fuel s'
      let own := s.reach c' but
      let pf ← Ds.freeze W.hk0 own.toList { s with pf := #[] } fun s => do
        let (w, v) ← codeNums s.c s.cP
        let d' := addH s.d (s.di + w)
        let u' := addH s.u (s.ui + v)
        let mut why : Array MessageData := #[]
        for (k', spec) in W.specs do
          if k' != k then continue
          let sn := spec.getAppFn.constName?.getD .anonymous
          if W.once.contains sn && s.used.contains sn then continue
          let (ms, _, ty) ← forallMetaTelescope (← instantiateMVars (← inferType spec))
          let isL := ty.isAppOfArity ``PuL 8
          let twin := c'.appFn!.appArg!.appArg!
          let plainC := match k with
            | .lit (.strVal _) => mkApp2 c'.appFn!.appFn! (mkApp (mkConst ``Value.builtin) k) c'.appArg!
            | _ => c'
          unless isL || ty.isAppOfArity ``Pu 6 do continue
          let want := mkAppN (mkConst (if isL then ``PuL else ``Pu)) #[s.X, s.g, d', u', plainC]
          unless ← isDefEq want (if isL then ty.appFn!.appFn!.appFn! else ty.appFn!) do
            why := why.push m!"{spec}: another form: {ty.appFn!} against {want}"
            continue
          let mut kL := 0
          if isL then
            let aL ← instantiateMVars ty.appFn!.appFn!.appArg!
            match s.T.findIdx? (fun p => match p with | some (b, _) => b == aL | none => false) with
            | some i => kL := i
            | none =>
              why := why.push m!"{spec}: not the call's own: {aL}"
              continue
            let some (some (_, oL)) := s.T[kL]? | continue
            unless ← isDefEq ty.appFn!.appArg! oL do
              why := why.push m!"{spec}: the object: {oL} against {ty.appFn!.appArg!}"
              continue
          let mut bad := none
          let env ← getEnv
          for pass in [0, 1] do
           if bad.isSome then break
           for m in ms do
            let m' ← instantiateMVars m
            unless m'.isMVar do continue
            let mt ← instantiateMVars (← inferType m')
            unless ← isProp mt do continue
            let known := match mt.getAppFn with | .const n _ => env.contains (n ++ `mono) && n != ``KIn && n != ``Le && ![`Mine.OptIs, `Mine.TysAre, `Mine.CosAre].contains n | _ => false
            if pass == 0 then
              unless known do continue
              let mut open_ := false
              for a in mt.getAppArgs do
                let ta ← inferType a
                if ta.isConstOf ``Nat || ta.isConstOf ``Addr then
                  open_ := a.isMVar
                  break
              if open_ then continue
            let z1 ← IO.monoMsNow
            let pr ← premise W s mt
            let z2 ← IO.monoMsNow
            match pr with
            | some h => unless ← isDefEq m' h do bad := some m!"a premise's proof: {mt}"
            | none => bad := some m!"no proof of {mt}"
            if bad.isSome then break
          if let some b := bad then
            why := why.push m!"{spec}: {b}"
            continue
          let C ← instantiateMVars (mkAppN spec ms)
          if C.hasExprMVar then
            why := why.push m!"{spec}: open: {C}"
            continue
          let s := if W.once.contains sn then { s with used := sn :: s.used } else s
          let Post := (← instantiateMVars ty).appArg!
          let z3 ← IO.monoMsNow
          let C ← match k with
            | .lit (.strVal t) => do
              let (_, h) ← ZFast.litTwin k t
              let cT ← instantiateMVars ty
              let i := cT.getAppArgs
              let v := Lean.Expr.lam `id (mkConst ``String) (mkAppN cT.getAppFn (i.set! 4 (mkApp2 c'.appFn!.appFn! (mkApp (mkConst ``Value.builtin) (.bvar 0)) c'.appArg!))) .default
              mkAppM ``cast #[← mkCongrArg v h, C]
            | _ => pure C
          let s' := s.push (mkAppN (mkConst ``st_call) (s.args ++ #[s.tP, d', u', reflB, reflE natT d', reflE natT u']))
          let kP := mkApp (mkConst ``kCall) s.tP
          let R' := mkAppN (mkConst ``Kr) #[s.X, mkApp2 (mkConst ``Ar) s.dE s.uE, s.cP, kP, s.R]
          let kE := s.t.getAppArgs.back!
          if isL then
            let some (some (aL, oL)) := s.T[kL]? | throwError "T"
            let body ← withLocalDeclD `g (mkConst ``Gm) fun g' => withLocalDeclD `ρ natFn fun ρ' => withLocalDeclD `tk natT fun tk' => withLocalDeclD `r (mkConst ``PySem.Result) fun r => withLocalDeclD `o objT fun o' =>
              withLocalDeclD `le (leT s.g g') fun le => withLocalDeclD `post (mkApp3 Post g' o' r).headBeta fun post => do
                let s₁ ← s.raise g' le
                let s₁ := { s₁ with ρ := ρ', tk := tk', ti := 0, pf := #[], T := s.T.set! kL (some (aL, o')) }
                let objs ← IO.mkRef (none : Option (Lean.Expr × Lean.Expr))
                let b ← unfoldPost s₁ r R' 40 (mkApp3 Post g' o' r).headBeta post none (some o') fun s₁ e => do
                  let some (rE, hr) := e | throwError "the contract tells no result"
                  let some (oE, ho) := s₁.objEq | throwError "the contract tells no object"
                  let oN ← nObj oE
                  let Q := mkApp R' r
                  let p1 := mkAppN (mkConst ``en_obj) #[s₁.X, s₁.F, s₁.g, s.TE, s₁.ρ, s₁.tkE, aL, Q, o', oE, mkRawNatLit kL, ho]
                  let s₂ := { s₁ with T := s.T.set! kL (some (aL, oN)), objEq := none }
                  let s₂ := { s₂ with pf := #[.app p1, .app (mkAppN (mkConst ``en_ret) #[s₂.X, s₂.F, s₂.g, s₂.TE, s₂.ρ, s₂.tkE, R', r, rE, hr])], t := mkApp kE rE, tP := mkApp kP rE }
                  go W fuel s₂
                mkLambdaFVars #[g', ρ', tk', r, o', le, post] b
            return ← assemble s'.pf (mkAppN (mkConst ``cd_useL) #[s.X, s.F, s.g, s.TE, s.ρ, s.tkE, d', u', mkApp (mkConst ``cCall) s.tP, R', aL, oL, Post, mkRawNatLit kL, reflE (mkApp (mkConst ``Option [0]) entT) (someT entT (entE (aL, oL))), C, body])
          let body ← withLocalDeclD `g (mkConst ``Gm) fun g' => withLocalDeclD `ρ natFn fun ρ' => withLocalDeclD `tk natT fun tk' => withLocalDeclD `r (mkConst ``PySem.Result) fun r =>
            withLocalDeclD `le (leT s.g g') fun le => withLocalDeclD `post (mkApp2 Post g' r).headBeta fun post => do
              let s₁ ← s.raise g' le
              let s₁ := { s₁ with ρ := ρ', tk := tk', ti := 0, pf := #[] }
              let b ← unfoldPost s₁ r R' 40 (mkApp2 Post g' r).headBeta post none none fun s₁ e => do
                let some (rE, hr) := e | throwError "the contract tells no result"
                let s₂ := { s₁ with pf := #[.app (mkAppN (mkConst ``en_ret) #[s₁.X, s₁.F, s₁.g, s₁.TE, s₁.ρ, s₁.tkE, R', r, rE, hr])], t := mkApp kE rE, tP := mkApp kP rE }
                go W fuel s₂
              mkLambdaFVars #[g', ρ', tk', r, le, post] b
          return ← assemble s'.pf (mkAppN (mkConst ``cd_use) #[s.X, s.F, s.g, s.TE, s.ρ, s.tkE, d', u', mkApp (mkConst ``cCall) s.tP, R', Post, C, body])
        match k with
        | .lit (.strVal _) => do
          let (s', r) ← s.step fun _ => pure false
          if r.isSome then throwError "no contract serves {c'}:\n{why}"
          go W fuel s'
        | _ => throwError "no contract serves {c'}:\n{why}"
      assemble s.pf pf
    | some (.way l₁) => do
      let s := s.flush
      -- a decision within a decision's own word
      let outer ← (do
        unless l₁.kind == ``Decidable.rec do return none
        let t ← kw s.t
        let some (l0, p0, e0) ← firstBoolDec (← chain 60 t) | return none
        let dT ← whnfR (← inferType l₁.raw)
        let D := Lean.Expr.lam `i dT (l₁.ctx (.bvar 0)) .default
        if ← isTypeCorrect D then return none
        return some (l0, p0, e0) : MetaM (Option (Level × Lean.Expr × Lean.Expr)))
      if let some (l0, p0, e0) := outer then
        if let some (b0, h0) ← boolBy 60 e0 then
          let D := Lean.Expr.lam `i (mkApp (mkConst ``Decidable) p0) (l0.ctx (.bvar 0)) .default
          let h := if b0 then h0 else mkApp2 (mkConst ``ne_true) e0 h0
          let t := l0.ctx (mkApp2 (mkConst (if b0 then ``Decidable.isTrue else ``Decidable.isFalse)) p0 h)
          let s' := { s with t := t, tP := t, pf := #[] }
          return ← assemble s.pf (mkAppN (mkConst (if b0 then ``st_true else ``st_false)) (s.args ++ #[p0, D, l0.raw, h, ← go W fuel s']))
      if let some (_, _, e0) := outer then
        let dT ← whnfR (← inferType l₁.raw)
        if let some (b, _) ← knownProp dT.appArg! then
          let ls ← chain 60 (← kw e0)
          let m ← ls.mapM fun l => do return m!"{l.kind}: {← inferType l.raw}"
          throwError "a known decision ({b}: {dT.appArg!}) does not serve: {m}"
      let l ← (do
        if outer.isSome then return { l₁ with ctx := fun _ => s.t }
        unless l₁.kind == ``Decidable.rec do return l₁
        let t ← kw s.t
        let ls ← chain 60 t
        unless ls.any (fun l => l.dep) do return l₁
        let dT ← whnfR (← inferType l₁.raw)
        if ← isTypeCorrect (Lean.Expr.lam `i dT (l₁.ctx (.bvar 0)) .default) then return l₁
        -- all places of the decision
        let ctx (y : Lean.Expr) : Lean.Expr := t.replace fun e => if e == l₁.raw then some y else none
        if ← isTypeCorrect (← withLocalDeclD `i dT fun i => mkLambdaFVars #[i] (ctx i)) then return { l₁ with ctx := fun y => match y with | .bvar 0 => (t.replace fun e => if e == l₁.raw then some (.fvar ⟨`zzHere⟩) else none).abstract #[.fvar ⟨`zzHere⟩] | _ => ctx y }
        throwError "a decision that parts its own word: {l₁.raw}" : TacticM Level)
      if l.kind == ``Bool.rec then
        let B := Lean.Expr.lam `b boolT (l.ctx (.bvar 0)) .default
        let at_ (b : Name) : Ds := let t := l.ctx (mkConst b); { s with t := t, tP := t, pf := #[] }
        -- both ways meet
        let hit ← meets stopCall 2 (at_ ``Bool.true) (at_ ``Bool.false) 12 (if isRow l.val then 120 else 40)
        match hit with
        | some (p, q) =>
          let sJ ← rowJoin s B l.val p q
          go W fuel sJ
        | none =>
          if isRow l.val then
            let mut msg := m!""
            for b in [``Bool.true, ``Bool.false] do
              let mut q := at_ b
              let mut i : Nat := 0
              let mut on : Bool := true
              while on && i < 300 do
                let (q', r) ← q.step stopCall
                q := { q' with t := ← kw q'.t }
                i := i + 1
                match r with
                | none => pure ()
                | some (.call c) => on := false; msg := msg ++ m!"\n{b} {i}: call {c}"
                | some (.stuck m) => on := false; msg := msg ++ m!"\n{b} {i}: stuck {m}"
                | some (.way l) => on := false; msg := msg ++ m!"\n{b} {i}: way {l.kind} {l.val}"
                | some (.loop c) => on := false; msg := msg ++ m!"\n{b} {i}: loop {c}"
                | some _ => on := false; msg := msg ++ m!"\n{b} {i}: other"
            assemble s.pf (← W.leaf s (.stuck m!"a row that parts: {l.val} {msg}"))
          else do
            -- known?
            let known ← known? (← nBool l.val)
            match known with
            | some (b, h) =>
              let s' ← s.decide l b h
              go W fuel s'
            | none =>
              let bv ← nBool l.val
              if bv.isAppOfArity ``Nat.ble 2 then
                if let some h ← premise W s (eqE boolT bv (mkConst ``Bool.false)) then
                  let s' ← s.decide l false h
                  return ← go W fuel s'
              let bE (b : Bool) := mkConst (if b then ``Bool.true else ``Bool.false)
              let side (b : Bool) : TacticM Lean.Expr := do
                withLocalDeclD `way (eqE boolT (← nBool l.val) (bE b)) fun h => do
                  mkLambdaFVars #[h] (← go W fuel (at_ (if b then ``Bool.true else ``Bool.false)))
              let x ← side true
              let y ← side false
              assemble s.pf (mkAppN (mkConst ``st_cases) (s.args ++ #[B, l.val, x, y]))
      else do
        let dT ← whnfR (← inferType l.raw)
        unless dT.isAppOfArity ``Decidable 1 do throwError "a decision of another kind: {dT}"
        let p := dT.appArg!
        let D := Lean.Expr.lam `i dT (l.ctx (.bvar 0)) .default
        let yes (h : Lean.Expr) : Ds := let t := l.ctx (mkApp2 (mkConst ``Decidable.isTrue) p h); { s with t := t, tP := t, pf := #[] }
        let no (h : Lean.Expr) : Ds := let t := l.ctx (mkApp2 (mkConst ``Decidable.isFalse) p h); { s with t := t, tP := t, pf := #[] }
        let np := mkApp (mkConst ``Not) p
        let apart (ne : Lean.Expr) (a b : Lean.Expr) : TacticM Lean.Expr := do
          let body ← withLocalDeclD `ne np fun h => do mkLambdaFVars #[h] (← go W fuel (no h))
          assemble s.pf (mkAppN (mkConst ``st_ne) (s.args ++ #[a, b, D, l.raw, ne, body]))
        let split (_ : Unit) : TacticM Lean.Expr := do
          for d in ← getLCtx do
            if d.isImplementationDetail then continue
            let ty ← instantiateMVars d.type
            unless ← isProp ty do continue
            if ty.isAppOf ``Eq && p.isAppOf ``Eq then
              if ← isDefEq ty p then
                return ← assemble s.pf (mkAppN (mkConst ``st_true) (s.args ++ #[p, D, l.raw, d.toExpr, ← go W fuel (yes d.toExpr)]))
            else if ty.isAppOfArity ``Not 1 || ty.isAppOfArity ``Ne 3 then
              if ← isDefEq ty np then
                return ← assemble s.pf (mkAppN (mkConst ``st_false) (s.args ++ #[p, D, l.raw, d.toExpr, ← go W fuel (no d.toExpr)]))
          if W.dec then
            if let some h ← premise W s p then
              return ← assemble s.pf (mkAppN (mkConst ``st_true) (s.args ++ #[p, D, l.raw, h, ← go W fuel (yes h)]))
            if let some h ← premise W s np then
              return ← assemble s.pf (mkAppN (mkConst ``st_false) (s.args ++ #[p, D, l.raw, h, ← go W fuel (no h)]))
          let x ← withLocalDeclD `way p fun h => do mkLambdaFVars #[h] (← go W fuel (yes h))
          let y ← withLocalDeclD `way np fun h => do mkLambdaFVars #[h] (← go W fuel (no h))
          assemble s.pf (mkAppN (mkConst ``st_dec) (s.args ++ #[p, D, l.raw, x, y]))
        match p.eq? with
        | some (ty, a, b) =>
          if (← whnfD ty).isConstOf ``Nat then
            let (a, b) := (← kw a, ← kw b)
            if a == b then
              let h := reflE natT a
              assemble s.pf (mkAppN (mkConst ``st_true) (s.args ++ #[p, D, l.raw, h, ← go W fuel (yes h)]))
            else
              let own (x : Lean.Expr) : Option (Nat × Lean.Expr) := (s.T.findIdx? fun p => match p with | some (c, _) => c == x | none => false).bind fun i => match s.T[i]? with | some (some (_, o)) => some (i, o) | _ => none
              let seen (x : Lean.Expr) : MetaM (Option (Lean.Expr × Lean.Expr)) := do
                match s.facts[x]? with
                | some r => return some r
                | none => match litOf x with
                  | some n => do
                    let some o ← topAt s.y n | return none
                    return some (o, mkApp3 s.hK x o (reflE (mkApp (mkConst ``Option [0]) objT) (someT objT o)))
                  | none => return none
              let eT (i : Nat) (x o : Lean.Expr) : Lean.Expr := reflE (mkApp (mkConst ``Option [0]) entT) (someT entT (entE (x, o)))
              match own a, own b with
              | some (i, oa), some (j, ob) => apart (mkAppN (mkConst ``ne_own) #[s.TE, s.F, s.g, s.ρ, mkRawNatLit i, mkRawNatLit j, a, b, oa, ob, eT i a oa, eT j b ob, reflE boolT (mkConst ``Bool.false)]) a b
              | some (i, oa), none => match ← seen b with
                | some (ob, hb) => apart (mkAppN (mkConst ``ne_vis) #[s.TE, s.F, s.g, s.ρ, mkRawNatLit i, a, b, oa, ob, eT i a oa, hb]) a b
                | none => split ()
              | none, some (j, ob) => match ← seen a with
                | some (oa, ha) => apart (mkAppN (mkConst ``ne_vis') #[s.TE, s.F, s.g, s.ρ, mkRawNatLit j, b, a, ob, oa, eT j b ob, ha]) a b
                | none => split ()
              | none, none => split ()
          else if (← kw a) == (← kw b) then
            let h := reflE ty a
            assemble s.pf (mkAppN (mkConst ``st_true) (s.args ++ #[p, D, l.raw, h, ← go W fuel (yes h)]))
          else split ()
        | none => split ()
    | some r => do assemble s.pf (← W.leaf s r)
where
  known? (b : Lean.Expr) : TacticM (Option (Bool × Lean.Expr)) := do
    for d in ← getLCtx do
      if d.isImplementationDetail then continue
      if let some (ty, lhs, rhs) := (← instantiateMVars d.type).eq? then
        if ty.isConstOf ``Bool then
          if rhs.isConstOf ``Bool.true && lhs == b then return some (true, d.toExpr)
          if rhs.isConstOf ``Bool.false && lhs == b then return some (false, d.toExpr)
    return none

def addLit (e : Lean.Expr) : Lean.Expr × Nat :=
  if e.isAppOfArity ``HAdd.hAdd 6 then
    let a := e.getAppArgs
    match (match a[5]! with | .lit (.natVal n) => some n | x => if x.isAppOfArity ``OfNat.ofNat 3 then litOf x.getAppArgs[1]! else none) with
    | some n => (a[4]!, n)
    | none => (e, 0)
  else if e.isAppOfArity ``Nat.add 2 then
    match litOf e.appArg! with
    | some n => (e.appFn!.appArg!, n)
    | none => (e, 0)
  else (e, 0)

/-- the state that a goal tells -/
def readGoal (ty : Lean.Expr) : MetaM Ds := do
  let ty ← whnfR (← instantiateMVars ty)
  let isSt := ty.isAppOfArity ``St 11
  unless ty.isAppOfArity ``Cd 10 || isSt do throwError "walk: no code: {ty}"
  let stT := if isSt then ty.getAppArgs[9]! else default
  let a := if isSt then ty.getAppArgs.eraseIdx! 9 else ty.getAppArgs
  let X := a[0]!
  unless X.isAppOfArity ``cx 1 do throwError "walk: X"
  let (tk, ti) := addLit a[5]!
  let (d, di) := addLit a[6]!
  let (u, ui) := addLit a[7]!
  let T ← (← listOf (← whnfR a[3]!) 1000).mapM fun e => do
    let e ← whnfR e
    if e.isAppOfArity ``Option.some 2 then
      let p ← whnfR e.appArg!
      unless p.isAppOfArity ``Prod.mk 4 do throwError "walk: T"
      let o ← openWords p.appArg!
      let o' ← match ← quickTexts o with | some (o', _) => pure o' | none => pure o
      return some (p.appFn!.appArg!, o')
    else return none
  -- the frames that wait
  let mut stk : List Wait := []
  let mut R := a[9]!
  let mut ws : Array Wait := #[]
  for _ in [0:100] do
    if R.isAppOfArity ``Kr 5 then
      let r := R.getAppArgs
      let A := r[1]!
      let (_, di') := addLit A.appFn!.appArg!
      let (_, ui') := addLit A.appArg!
      ws := ws.push { k := r[3]!, kP := r[3]!, di := di', ui := ui', c := r[2]!, cP := r[2]!, R := r[4]! }
      R := r[4]!
    else break
  stk := ws.toList
  let g := a[2]!
  let mut s : Ds := { y := X.appArg!, X := X, F := a[1]!, g := g, ρ := a[4]!, tk := tk, d := d, u := u, hK := default, hd := default, hu := default, dMax := 0, uMax := 0, T := T.toArray, ti := ti, di := di, ui := ui, c := a[8]!, cP := a[8]!, t := if isSt then stT else mkApp (mkConst ``den) a[8]!, tP := if isSt then stT else mkApp (mkConst ``den) a[8]!, R := a[9]!, stk := stk, g₀ := g, le := mkApp (mkConst ``Le.refl) g }
  let mut ok := (false, false, false)
  for l in ← getLCtx do
    if l.isImplementationDetail then continue
    let ty ← instantiateMVars l.type
    if ty.isAppOfArity ``KIn 2 && ty.appArg! == s.g then
      s := { s with hK := l.toExpr }
      ok := (true, ok.2)
    else if ty.isAppOfArity ``LT.lt 4 then
      let r := ty.getAppArgs
      let (b, n) := addLit r[2]!
      if r[3]!.isConstOf ``recursionLimit && b == s.d && n ≥ s.dMax then
        s := { s with hd := l.toExpr, dMax := n }
        ok := (ok.1, true, ok.2.2)
      else if r[3]!.isConstOf ``cLine && b == s.u && n ≥ s.uMax then
        s := { s with hu := l.toExpr, uMax := n }
        ok := (ok.1, ok.2.1, true)
    else if ← isProp ty then
      s ← s.note ty l.toExpr
  unless ok.1 && ok.2.1 && ok.2.2 do throwError "walk: a fact lacks (KIn {ok.1}, depth {ok.2.1}, units {ok.2.2})"
  return s

/-- explicit words for what waits -/
def Ds.explicitR (s : Ds) : Lean.Expr := Id.run do
  let fin := match s.stk.getLast? with | some w => w.R | none => s.R
  let mut R := fin
  for w in s.stk.reverse do
    R := mkAppN (mkConst ``Kr) #[s.X, mkApp2 (mkConst ``Ar) (addE s.d w.di) (addE s.u w.ui), w.c, w.k, R]
  return R

def contracts (names : List Name) : TacticM (Array (Lean.Expr × Lean.Expr)) := do
  let mut out := #[]
  let mut cands : Array Lean.Expr := #[]
  for d in ← getLCtx do
    if d.isImplementationDetail then continue
    cands := cands.push d.toExpr
  for n in names do cands := cands.push (← mkConstWithFreshMVarLevels n)
  for c in cands do
    let sv ← saveState
    let (_, _, ty) ← forallMetaTelescope (← instantiateMVars (← inferType c))
    if ty.isAppOfArity ``Pu 6 || ty.isAppOfArity ``PuL 8 then
      let code ← instantiateMVars ty.getAppArgs[4]!
      if let some k ← keyOf code then out := out.push (k, c)
    sv.restore
  return out

/-- hand a goal on, with what is known as hypotheses -/
def Ds.leave (s : Ds) (goals : IO.Ref (Array MVarId)) (ty : Lean.Expr) : TacticM Lean.Expr := do
  let m ← mkFreshExprSyntheticOpaqueMVar ty
  let mut g := m.mvarId!
  let mut away := #[]
  for d in ← getLCtx do
    if d.isImplementationDetail then continue
    let ty ← instantiateMVars d.type
    if ty.isAppOf ``Lies then away := away.push d.fvarId
  g ← g.tryClearMany away
  g ← g.assert `hle (leT s.g₀ s.g) s.le
  (_, g) ← g.intro1P
  g ← g.assert `hK (mkApp2 (mkConst ``KIn) s.kt s.g) s.hK
  (_, g) ← g.intro1P
  for (t, h) in s.preds do
    g ← g.assert `hp t h
    (_, g) ← g.intro1P
  for (a, (o, h)) in s.facts.toList do
    let (ty, h) ← plainFact s.g a o h
    g ← g.assert `hf ty h
    (_, g) ← g.intro1P
  goals.modify (·.push g)
  return m

def walkTacX (specs : List Name) (prem : TacticM Unit) (fuel : Nat) (once : List Name) (dec : Bool) (halt : List Nat) (loops : Bool) (lay : List Nat) : TacticM Unit := withMainContext do
  let g ← getMainGoal
  let t0 ← IO.monoMsNow
  let s ← readGoal (← g.getType)
  let s := { s with loops := loops, atRange := halt.contains 0 }
  let goals ← IO.mkRef (#[] : Array MVarId)
  let count ← IO.mkRef 0
  -- the numbers from k₀ on may be laid still
  let mut hk0 : Option Lean.Expr := none
  for d in ← getLCtx do
    if d.isImplementationDetail then continue
    if let some (_, lhs, rhs) := (← instantiateMVars d.type).eq? then
      if lhs.isAppOf ``Frm.k₀ then
        hk0 := some (← withLocalDeclD `i natT fun i => do
          let hb ← mkEq (mkApp2 (mkConst ``Nat.ble) rhs i) (mkConst ``Bool.true)
          withLocalDeclD `h hb fun h => do
            mkLambdaFVars #[i, h] (mkAppN (mkConst ``k0_le) #[lhs, rhs, i, d.toExpr, h]))
  let some hkE := hk0 | throwError "walk: no F.k₀"
  let isSt := (← whnfR (← instantiateMVars (← g.getType))).isAppOfArity ``St 11
  let start := mkAppN (mkConst ``cd_den) (#[s.X, s.F, s.g, s.TE, s.ρ, s.tkE, s.dE, s.uE, s.R, s.cP, mkConst ``den, mkConst ``den_eq])
  let leaf (s : Ds) (r : Stop) : TacticM Lean.Expr := do
    count.modify (· + s.steps)
    logInfo m!"kw {s.tKw / 1000000} step {s.tStep / 1000000}"
    match r with
    | .stuck m => throwError m
    | .done r =>
      let own := s.reach r []
      let ty (s : Ds) := mkAppN (mkConst ``En) #[s.X, s.F, s.g, s.TE, s.ρ, s.tkE, mkApp s.R r]
      Ds.freeze hkE own.toList { s with tP := mkApp2 (mkConst ``En) s.X (mkApp s.R r) } fun s => s.leave goals (ty s)
    | .loop c =>
      let s := s.flush
      let again := s.t.isAppOf ``Sem.pure
      let own := (lay.foldl (fun (a : Array Nat) k => match s.T[k % 1000]? with
        | some (some (_, o)) => (if k ≥ 1000 then a.push (k % 1000) else a) ++ s.reach o []
        | _ => a) #[]).toList.eraseDups
      let pf ← Ds.freeze hkE own { s with pf := #[] } fun s => do
        let R := s.explicitR
        if again then
          let ty := mkAppN (mkConst ``Cd) #[s.X, s.F, s.g, s.TE, s.ρ, s.tkE, s.dE, s.uE, c, R]
          let m ← s.leave goals ty
          return mkAppN (mkConst ``st_again) (s.args ++ #[s.tP, reflB, reflB, m])
        else
          let (w, v) ← codeNums s.c s.cP
          let d' := addH s.d (s.di + w)
          let u' := addH s.u (s.ui + v)
          let R' := mkAppN (mkConst ``Kr) #[s.X, mkApp2 (mkConst ``Ar) s.dE s.uE, s.c, s.t.getAppArgs.back!, R]
          let ty := mkAppN (mkConst ``Cd) #[s.X, s.F, s.g, s.TE, s.ρ, s.tkE, d', u', c, R']
          let m ← s.leave goals ty
          return mkAppN (mkConst ``st_call) (s.args ++ #[s.tP, d', u', reflB, reflE natT d', reflE natT u', m])
      return pf
    | _ => throwError "walk: a stop"
  let W : Tools := { specs := ← contracts specs, once := once, dec := dec, halt := halt, loops := loops, prem := prem, hk0 := hkE, leaf := leaf }
  let pf ← go W fuel s
  let t1 ← IO.monoMsNow
  g.assign (if isSt then pf else mkApp start pf)
  replaceMainGoal (← goals.get).toList
  logInfo m!"walked {← count.get} steps in {t1 - t0} ms, {(← goals.get).size} ends"
def walkTac (specs : List Name := []) (prem : TacticM Unit := do evalTactic (← `(tactic| assumption))) (fuel : Nat := 3000) (once : List Name := []) (dec : Bool := false) : TacticM Unit := walkTacX specs prem fuel once dec [] false []

inductive Abs where
  | idx (k : Nat)
  | ent (k i : Nat)
  | lst (k : Nat)
  | fld (k i : Nat)
  | cel (k : Nat)
  | adr (k : Nat)
  | tok (k : Nat)

/-- a loop's head as a word of the seen part and of what turns: P g .. -/
def mkLoopG (out : Option Name) (keep : List Nat) (abs : List Abs) : TacticM Unit := withMainContext do
  let g ← getMainGoal
  let ty ← whnfR (← instantiateMVars (← g.getType))
  let a := ty.getAppArgs
  unless ty.isAppOfArity ``Cd 10 do throwError "mkLoop: no code"
  let ents ← (← listOf (← whnfR a[3]!) 1000).mapM fun e => do
    let e ← whnfR e
    if e.isAppOfArity ``Option.some 2 then
      let p ← whnfR e.appArg!
      return some (p.appFn!.appArg!, p.appArg!)
    else return none
  let kept ← keep.mapM fun k => match ents[k]? with
    | some (some p) => pure p
    | _ => throwError "mkLoop: no entry {k}"
  let mut hk : Option (Lean.Expr × Lean.Expr) := none
  for d in ← getLCtx do
    if d.isImplementationDetail then continue
    if let some (_, lhs, rhs) := (← instantiateMVars d.type).eq? then
      if lhs.isAppOf ``Frm.k₀ then hk := some (d.toExpr, rhs)
  let some (hkE, k0) := hk | throwError "mkLoop: no F.k₀"
  -- the words of what turns
  let pos (k : Nat) : MetaM Nat := match keep.idxOf? k with | some i => pure i | none => throwError "mkLoop: {k} is not kept"
  let objs := (kept.map (·.2)).toArray
  let adrRef ← IO.mkRef (kept.map (·.1))
  let rec build (abs : List Abs) (objs : Array Lean.Expr) (xs : Array Lean.Expr) (vals : Array Lean.Expr) (k : Array Lean.Expr → Array Lean.Expr → Array Lean.Expr → TacticM Unit) : TacticM Unit := match abs with
    | [] => k objs xs vals
    | .idx i :: r => do
      let p ← pos i
      let o ← nObj objs[p]!
      let oa := o.getAppArgs
      let fs ← listOf oa[2]!.appArg!.appArg! 10
      let some old := fs[1]? | throwError "mkLoop: no index"
      let n ← (do match litOf old.getAppArgs[0]! with
        | some n => return mkRawNatLit n
        | none =>
          let z := old.getAppArgs[0]!
          if z.isAppOfArity ``Nat.cast 3 then return z.appArg!
          let w ← kw z
          if w.isAppOfArity ``Int.ofNat 1 then return w.appArg!
          throwError "mkLoop: the index {z}" : MetaM Lean.Expr)
      withLocalDeclD `i natT fun x => do
        let v := mkApp2 (mkConst ``Value.int) (mkApp3 (mkConst ``Nat.cast [0]) (mkConst ``Int) (mkConst ``instNatCastInt) x) (mkRawNatLit 0)
        let fs' := fs.set 1 v
        let dt := mkApp (mkConst ``Data.fields) (mkApp2 (mkConst ``Array.mk [0]) (mkConst ``Value) (listE (mkConst ``Value) fs'))
        build r (objs.set! p (mkAppN o.getAppFn (oa.set! 2 dt))) (xs.push x) (vals.push n) k
    | .ent i j :: r => do
      let p ← pos i
      let o ← nObj objs[p]!
      let oa := o.getAppArgs
      let dta := oa[2]!.getAppArgs
      let es ← listOf dta[0]!.appArg! 100
      let some e := es[j]? | throwError "mkLoop: no entry"
      withLocalDeclD `v (mkConst ``Value) fun x => do
        let es' := es.set j (mkApp e.appFn! x)
        let dt := mkApp2 (mkConst ``Data.dict) (mkApp2 (mkConst ``Array.mk [0]) (mkConst ``DictEntry) (listE (mkConst ``DictEntry) es')) dta[1]!
        build r (objs.set! p (mkAppN o.getAppFn (oa.set! 2 dt))) (xs.push x) (vals.push e.appArg!) k
    | .cel i :: r => do
      let p ← pos i
      let o ← nObj objs[p]!
      let oa := o.getAppArgs
      let c ← whnfR oa[2]!
      let c ← if c.isAppOfArity ``Data.cell 1 then pure c.appArg! else throwError "mkLoop: no cell"
      let c ← kw c
      unless c.isAppOfArity ``Option.some 2 do throwError "mkLoop: an empty cell"
      withLocalDeclD `v (mkConst ``Value) fun x => do
        let dt := mkApp (mkConst ``Data.cell) (mkApp c.appFn! x)
        build r (objs.set! p (mkAppN o.getAppFn (oa.set! 2 dt))) (xs.push x) (vals.push c.appArg!) k
    | .adr i :: r => do
      let p ← pos i
      let some (ad, _) := kept[p]? | throwError "adr"
      withLocalDeclD `a natT fun x => do
        adrRef.modify fun l => l.set p x
        build r objs (xs.push x) (vals.push ad) k
    | .tok i :: r => do
      let p ← pos i
      let o ← nObj objs[p]!
      let oa := o.getAppArgs
      let dta := oa[2]!.getAppArgs
      let es ← listOf dta[0]!.appArg! 100
      let rec toks (es : List Lean.Expr) (out : Array Lean.Expr) (xs vals : Array Lean.Expr) (k' : Array Lean.Expr → Array Lean.Expr → Array Lean.Expr → TacticM Unit) : TacticM Unit := match es with
        | [] => k' out xs vals
        | e :: es => do
          let ea := e.getAppArgs
          let kv := ea[1]!
          if kv.isAppOfArity ``Value.str 2 then
            withLocalDeclD `t natT fun x => do
              toks es (out.push (mkAppN e.getAppFn (ea.set! 1 (mkApp kv.appFn! x)))) (xs.push x) (vals.push kv.appArg!) k'
          else toks es (out.push e) xs vals k'
      toks es #[] xs vals fun es' xs vals => do
        let dt := mkApp2 (mkConst ``Data.dict) (mkApp2 (mkConst ``Array.mk [0]) (mkConst ``DictEntry) (listE (mkConst ``DictEntry) es'.toList)) dta[1]!
        build r (objs.set! p (mkAppN o.getAppFn (oa.set! 2 dt))) xs vals k
    | .fld i j :: r => do
      let p ← pos i
      let o ← nObj objs[p]!
      let oa := o.getAppArgs
      let fs ← listOf oa[2]!.appArg!.appArg! 10
      let some old := fs[j]? | throwError "mkLoop: no field"
      withLocalDeclD `v (mkConst ``Value) fun x => do
        let fs' := fs.set j x
        let dt := mkApp (mkConst ``Data.fields) (mkApp2 (mkConst ``Array.mk [0]) (mkConst ``Value) (listE (mkConst ``Value) fs'))
        build r (objs.set! p (mkAppN o.getAppFn (oa.set! 2 dt))) (xs.push x) (vals.push old) k
    | .lst i :: r => do
      let p ← pos i
      let o ← nObj objs[p]!
      let oa := o.getAppArgs
      let dta := oa[2]!.getAppArgs
      withLocalDeclD `vs (mkApp (mkConst ``List [0]) (mkConst ``Value)) fun x => withLocalDeclD `n natT fun n => do
        let dt := mkApp2 (mkConst ``Data.seq) (mkApp2 (mkConst ``Array.mk [0]) (mkConst ``Value) x) n
        build r (objs.set! p (mkAppN o.getAppFn (oa.set! 2 dt))) ((xs.push x).push n) ((vals.push dta[0]!.appArg!).push dta[1]!) k
  build abs objs #[] #[] fun objs xs vals => do
    -- the addresses that are to turn
    let adrs ← adrRef.get
    let T' := trE ((adrs.zip objs.toList).map fun (p, o) => some (p, o)).toArray
    let P ← withLocalDeclD `g (mkConst ``Gm) fun gv => do
      let body ← withLocalDeclD `ρ natFn fun ρ => withLocalDeclD `tk natT fun tk => do
        mkForallFVars #[ρ, tk] (mkAppN (mkConst ``Cd) #[a[0]!, a[1]!, gv, T', ρ, mkApp6 (mkConst ``HAdd.hAdd [0, 0, 0]) natT natT natT (mkApp2 (mkConst ``instHAdd [0]) natT (mkConst ``instAddNat)) tk (mkNatLit 0), a[6]!, a[7]!, a[8]!, a[9]!])
      mkLambdaFVars (#[gv] ++ xs) body
    let pack (g' : MVarId) (pE : Lean.Expr) : TacticM Unit := do
      let new := mkAppN pE (#[a[2]!] ++ vals)
      let m ← mkFreshExprSyntheticOpaqueMVar new
      let T'0 := T'.replaceFVars xs vals
      let ksE := listE natT (keep.map mkRawNatLit)
      let body ← withLocalDeclD `ρ natFn fun ρ => do mkLambdaFVars #[ρ] (mkApp2 m ρ a[5]!)
      let Q := mkAppN (mkConst ``codeAny) #[mkApp (mkConst ``Cx.M) a[0]!, mkApp2 (mkConst ``Ar) a[6]! a[7]!, a[8]!, a[9]!]
      let pf := mkAppN (mkConst ``en_pack') #[a[0]!, a[1]!, a[2]!, a[3]!, a[4]!, a[5]!, Q, k0, hkE, ksE, T'0, reflE (mkConst ``Tr) T'0, reflB, body]
      g'.assign pf
      replaceMainGoal [m.mvarId!]
    if let some nm := out then
      let some pm := (← getMCtx).findUserName? nm | throwError "mkOut: no {nm}"
      let old := (← pm.getDecl).lctx
      let P ← instantiateMVars P
      let fv := (collectFVars {} P).fvarIds.filter fun f => !old.contains f
      let ds ← fv.mapM fun f => f.getDecl
      let ds := ds.qsort fun x y => x.index < y.index
      let ex := ds.map (·.toExpr)
      logInfo m!"mkOut brings {← ds.mapM fun d => do return m!"{d.userName} : {d.type}"}"
      let P' ← mkLambdaFVars ex P
      pm.assign P'
      pack g (mkAppN P' ex)
      return
    let pT ← inferType P
    let (p, g') ← (← g.define `P pT P).intro1P
    g'.withContext do pack g' (mkFVar p)
def mkLoop (keep : List Nat) (abs : List Abs) : TacticM Unit := mkLoopG none keep abs
/-- the same, the word laid on a goal that waits ahead of the ways -/
def mkOut (nm : Name) (keep : List Nat) (abs : List Abs) : TacticM Unit := mkLoopG (some nm) keep abs
/-- the code that the goal stands at as a word of the named things; laid on a goal that waits -/
def mkCode (nm : Name) (over : Array Lean.Expr) : TacticM Unit := withMainContext do
  let g ← getMainGoal
  let ty ← whnfR (← instantiateMVars (← g.getType))
  unless ty.isAppOfArity ``Cd 10 do throwError "mkCode: no code"
  let c := ty.getAppArgs[8]!
  let some pm := (← getMCtx).findUserName? nm | throwError "mkCode: no {nm}"
  let old := (← pm.getDecl).lctx
  -- the addresses that are named
  let mut b := c
  let mut vars : Array Lean.Expr := #[]
  let rec loop (i : Nat) (vars : Array Lean.Expr) (b : Lean.Expr) (k : Array Lean.Expr → Lean.Expr → TacticM Unit) : TacticM Unit := do
    if h : i < over.size then
      withLocalDeclD `a natT fun x => do
        let b' := b.replace fun e => if e == over[i] then some x else none
        loop (i + 1) (vars.push x) b' k
    else k vars b
  loop 0 #[] c fun vars b => do
    let fv := (collectFVars {} b).fvarIds.filter fun f => !old.contains f && !vars.contains (.fvar f)
    let ds ← fv.mapM fun f => f.getDecl
    let ds := ds.qsort fun x y => x.index < y.index
    let ex := ds.map (·.toExpr)
    logInfo m!"mkCode brings {← ds.mapM fun d => do return m!"{d.userName} : {d.type}"} ⊢ {over}"
    pm.assign (← mkLambdaFVars (ex ++ vars) b)
/-- the row of entries written out -/
def normTrF : Nat → Lean.Expr → MetaM (List Lean.Expr)
  | 0, e => throwError "normTr: {e}"
  | n + 1, e => do
    let e ← whnf e
    if e.isAppOfArity ``List.cons 3 then
      let h ← whnf e.getAppArgs[1]!
      let h ← if h.isAppOfArity ``Option.some 2 then do
          let p ← whnf h.appArg!
          if p.isAppOfArity ``Prod.mk 4 then do
            let pa := p.getAppArgs
            let ad ← whnf pa[2]!
            pure (mkApp h.appFn! (mkAppN p.getAppFn #[pa[0]!, pa[1]!, ad, pa[3]!]))
          else pure h
        else pure h
      return h :: (← normTrF n e.getAppArgs[2]!)
    else if e.isAppOfArity ``List.nil 1 then return []
    else throwError "normTr: {e}"
def normTr (e : Lean.Expr) : MetaM (List Lean.Expr) := normTrF 10000 e
/-- from the end of a call's contract on with the tree behind it -/
def onward : TacticM Unit := withMainContext do
  let g ← getMainGoal
  let ty ← whnfR (← instantiateMVars (← g.getType))
  unless ty.isAppOfArity ``En 7 do throwError "onward: {ty}"
  let a := ty.getAppArgs
  let T := listE (mkApp (mkConst ``Option [0]) entT) (← normTr a[3]!)
  let q ← whnfR a[6]!
  unless q.isAppOfArity ``Kr 6 do throwError "onward: no Kr: {q.getAppFn}"
  let qa := q.getAppArgs
  let A ← whnfR qa[1]!
  unless A.isAppOfArity ``Ar 2 do throwError "onward: no Ar"
  let new := mkAppN (mkConst ``St) #[a[0]!, a[1]!, a[2]!, T, a[4]!, a[5]!, A.appFn!.appArg!, A.appArg!, qa[2]!, mkApp qa[3]! qa[5]!, qa[4]!]
  replaceMainGoal [← g.replaceTargetDefEq new]
/-- the code as a word of the addresses of the row's entries -/
def mkCodeT (nm : Name) (ks : List Nat) : TacticM Unit := withMainContext do
  let g ← getMainGoal
  let ty ← whnfR (← instantiateMVars (← g.getType))
  unless ty.isAppOfArity ``Cd 10 do throwError "mkCodeT: no code"
  let ents ← normTr ty.getAppArgs[3]!
  let mut over := #[]
  for k in ks do
    let some e := ents[k]? | throwError "mkCodeT: {k}"
    unless e.isAppOfArity ``Option.some 2 do throwError "mkCodeT: no entry {k}"
    over := over.push e.appArg!.getAppArgs[2]!
  mkCode nm over
/-- what stands at the places -/
def takes (T : Tr) : List Nat → List (Addr × Obj) → Prop
  | [], [] => True
  | k :: ks, p :: os => tget T k = some p ∧ takes T ks os
  | _, _ => False
theorem takes.spec {T : Tr} : ∀ {ks : List Nat} {os : List (Addr × Obj)}, takes T ks os → ks.length = os.length ∧ ∀ (i k : Nat) (p : Addr × Obj), ks[i]? = some k → os[i]? = some p → tget T k = some p
  | [], [], _ => ⟨rfl, fun i k p e => by simp at e⟩
  | k :: ks, p :: os, h => by
    obtain ⟨l, s⟩ := takes.spec h.2
    refine ⟨by simp [l], fun i k' q e e' => ?_⟩
    cases i with
    | zero =>
      simp only [List.getElem?_cons_zero, Option.some.injEq] at e e'
      subst e; subst e'; exact h.1
    | succ i =>
      simp only [List.getElem?_cons_succ] at e e'
      exact s i k' q e e'
  | [], _ :: _, h => h.elim
  | _ :: _, [], h => h.elim
end Mine

/-! Lib -/
namespace Mine
open PySem PySem.W PySem.W.X

/-! the law's trees and types: (c,), (c, t), (6, t, u) -/
inductive PT where
  | leaf (c : Nat)
  | un (c : Nat) (t : PT)
  | two (t u : PT)
def PT.dep : PT → Nat
  | .leaf _ => 0
  | .un _ t => t.dep + 1
  | .two t u => max t.dep u.dep + 1
def PT.eqB : PT → PT → Bool
  | .leaf c, .leaf k => c == k
  | .un c t, .un k u => c == k && t.eqB u
  | .two t u, .two t' u' => t.eqB t' && u.eqB u'
  | _, _ => false
theorem PT.eqB_iff : ∀ {a b : PT}, a.eqB b = true ↔ a = b
  | .leaf c, .leaf k => by simp [PT.eqB]
  | .un c t, .un k u => by simp [PT.eqB, PT.eqB_iff]
  | .two t u, .two t' u' => by simp [PT.eqB, PT.eqB_iff]
  | .leaf _, .un _ _ => by simp [PT.eqB]
  | .leaf _, .two _ _ => by simp [PT.eqB]
  | .un _ _, .leaf _ => by simp [PT.eqB]
  | .un _ _, .two _ _ => by simp [PT.eqB]
  | .two _ _, .leaf _ => by simp [PT.eqB]
  | .two _ _, .un _ _ => by simp [PT.eqB]
/-- a type without variables -/
def PT.ty : PT → Prop
  | .leaf c => c < 4 ∨ c = 9
  | .un c t => (c = 4 ∨ c = 5) ∧ t.ty
  | .two t u => t.ty ∧ u.ty
/-- a tree of a parameter: variables, no never -/
def PT.tr : PT → Prop
  | .leaf c => c < 4 ∨ c = 7 ∨ c = 8
  | .un c t => (c = 4 ∨ c = 5) ∧ t.tr
  | .two t u => t.tr ∧ u.tr

/-! in the heap: the law's tuples -/
inductive PTIs : Gm → Addr → PT → Prop where
  | leaf {g : Gm} {a : Addr} {c : Nat} {k : Nat} : g a = some (tupO [.int c k]) → PTIs g a (.leaf c)
  | un {g : Gm} {a b : Addr} {c : Nat} {k : Nat} {t : PT} : g a = some (tupO [.int c k, .ref b]) → PTIs g b t → PTIs g a (.un c t)
  | two {g : Gm} {a b b' : Addr} {k : Nat} {t u : PT} : g a = some (tupO [.int 6 k, .ref b, .ref b']) → PTIs g b t → PTIs g b' u → PTIs g a (.two t u)
theorem PTIs.mono {g g' : Gm} {a : Addr} {t : PT} (l : Le g g') (h : PTIs g a t) : PTIs g' a t := by
  induction h with
  | leaf e => exact .leaf (l _ _ e)
  | un e _ ih => exact .un (l _ _ e) ih
  | two e _ _ ih ih' => exact .two (l _ _ e) ih ih'

/-! the classes, variables and roots that the law makes -/
structure Wo where
  N : Nat → Str
  I : Nat → Addr
  par : Nat → Nat
  R : Addr
  Fl : Addr
  V : Nat → Addr
  vi : Nat → Addr
  root : Addr
def Wo.anc (W : Wo) : Nat → Nat → List Nat
  | 0, k => [k]
  | n + 1, k => if k = 0 then [0] else k :: W.anc n (W.par k)
def Wo.mro (W : Wo) (k : Nat) : List Nat := W.anc 7 k
def nmS : Nat → String
  | 0 => "builtins.object"
  | 1 => "c1"
  | 2 => "c2"
  | 3 => "c3"
  | 4 => "box"
  | 5 => "sink"
  | _ => "pair"
def nm (k : Nat) : Str := Str.ofString (nmS k)
theorem nm_inj : ∀ j, j < 7 → ∀ k, k < 7 → nm j = nm k → j = k := by decide +kernel

inductive TyIs : Gm → Wo → Addr → PT → Prop where
  | cls {g : Gm} {W : Wo} {a d tp : Addr} {k t1 t2 n : Nat} {h1 h2 : Int} : k < 4 → g a = some (ins 366 d) → g d = some (dct [key h1 t1 "type" (.ref (W.I k)), key h2 t2 "args" (.ref tp)] n) → g tp = some (tupO []) → TyIs g W a (.leaf k)
  | nev {g : Gm} {W : Wo} {a d : Addr} {t1 n : Nat} {h1 : Int} {b : Bool} : g a = some (ins 300 d) → g d = some (dct [key h1 t1 "ambiguous" (.bool b)] n) → TyIs g W a (.leaf 9)
  | var {g : Gm} {W : Wo} {j c : Nat} : j < 2 → c = 7 + j → TyIs g W (W.V j) (.leaf c)
  | un {g : Gm} {W : Wo} {a d tp b : Addr} {c t1 t2 n : Nat} {h1 h2 : Int} {t : PT} : (c = 4 ∨ c = 5) → g a = some (ins 366 d) → g d = some (dct [key h1 t1 "type" (.ref (W.I c)), key h2 t2 "args" (.ref tp)] n) → g tp = some (tupO [.ref b]) → TyIs g W b t → TyIs g W a (.un c t)
  | two {g : Gm} {W : Wo} {a d tp b b' : Addr} {t1 t2 n : Nat} {h1 h2 : Int} {t u : PT} : g a = some (ins 366 d) → g d = some (dct [key h1 t1 "type" (.ref (W.I 6)), key h2 t2 "args" (.ref tp)] n) → g tp = some (tupO [.ref b, .ref b']) → TyIs g W b t → TyIs g W b' u → TyIs g W a (.two t u)
theorem TyIs.mono {g g' : Gm} {W : Wo} {a : Addr} {t : PT} (l : Le g g') (h : TyIs g W a t) : TyIs g' W a t := by
  induction h with
  | cls k e1 e2 e3 => exact .cls k (l _ _ e1) (l _ _ e2) (l _ _ e3)
  | nev e1 e2 => exact .nev (l _ _ e1) (l _ _ e2)
  | var h e => exact .var h e
  | un c e1 e2 e3 _ ih => exact .un c (l _ _ e1) (l _ _ e2) (l _ _ e3) ih
  | two e1 e2 e3 _ _ ih ih' => exact .two (l _ _ e1) (l _ _ e2) (l _ _ e3) ih ih'

theorem TyIs.cls_inv {g : Gm} {W : Wo} {a : Addr} {k : Nat} (h : TyIs g W a (.leaf k)) (hk : k < 4) : ∃ d tp h1 t1 h2 t2 n, g a = some (ins 366 d) ∧ g d = some (dct [key h1 t1 "type" (.ref (W.I k)), key h2 t2 "args" (.ref tp)] n) ∧ g tp = some (tupO []) := by
  cases h with
  | cls _ e1 e2 e3 => exact ⟨_, _, _, _, _, _, _, e1, e2, e3⟩
  | nev => omega
  | var => omega
theorem TyIs.nev_inv {g : Gm} {W : Wo} {a : Addr} (h : TyIs g W a (.leaf 9)) : ∃ d h1 t1 b n, g a = some (ins 300 d) ∧ g d = some (dct [key h1 t1 "ambiguous" (.bool b)] n) := by
  generalize e : PT.leaf 9 = t at h
  cases h with
  | cls h => cases e; omega
  | nev e1 e2 => exact ⟨_, _, _, _, _, e1, e2⟩
  | var h q => cases e; omega
  | un => cases e
  | two => cases e
theorem TyIs.var_inv {g : Gm} {W : Wo} {a : Addr} {c : Nat} (h : TyIs g W a (.leaf c)) (hc : c = 7 ∨ c = 8) : a = W.V (c - 7) := by
  cases h with
  | cls h => omega
  | nev => omega
  | var h q => subst q; congr 1; omega
theorem TyIs.un_inv {g : Gm} {W : Wo} {a : Addr} {c : Nat} {t : PT} (h : TyIs g W a (.un c t)) : (c = 4 ∨ c = 5) ∧ ∃ d tp b h1 t1 h2 t2 n, g a = some (ins 366 d) ∧ g d = some (dct [key h1 t1 "type" (.ref (W.I c)), key h2 t2 "args" (.ref tp)] n) ∧ g tp = some (tupO [.ref b]) ∧ TyIs g W b t := by
  cases h with
  | un c e1 e2 e3 r => exact ⟨c, _, _, _, _, _, _, _, _, e1, e2, e3, r⟩
theorem TyIs.two_inv {g : Gm} {W : Wo} {a : Addr} {t u : PT} (h : TyIs g W a (.two t u)) : ∃ d tp b b' h1 t1 h2 t2 n, g a = some (ins 366 d) ∧ g d = some (dct [key h1 t1 "type" (.ref (W.I 6)), key h2 t2 "args" (.ref tp)] n) ∧ g tp = some (tupO [.ref b, .ref b']) ∧ TyIs g W b t ∧ TyIs g W b' u := by
  cases h with
  | two e1 e2 e3 r r' => exact ⟨_, _, _, _, _, _, _, _, _, e1, e2, e3, r, r'⟩
def PT.inst : PT → Bool
  | .leaf c => decide (c < 4)
  | _ => true
/-- an object of Instance, whatever its kind: its class, its tuple -/
def PT.hd : PT → Nat
  | .leaf c => c
  | .un c _ => c
  | .two _ _ => 6
def PT.kids : PT → List PT
  | .leaf _ => []
  | .un _ t => [t]
  | .two t u => [t, u]
def KidsAre (g : Gm) (W : Wo) : List Value → List PT → Prop
  | [], [] => True
  | .ref b :: vs, t :: ts => TyIs g W b t ∧ KidsAre g W vs ts
  | _, _ => False
theorem TyIs.inst_inv {g : Gm} {W : Wo} {a : Addr} {t : PT} (h : TyIs g W a t) (hi : t.inst = true) : ∃ d tp vs h1 t1 h2 t2 n, g a = some (ins 366 d) ∧ g d = some (dct [key h1 t1 "type" (.ref (W.I t.hd)), key h2 t2 "args" (.ref tp)] n) ∧ g tp = some (tupO vs) ∧ KidsAre g W vs t.kids ∧ t.hd < 7 := by
  cases h with
  | cls k e1 e2 e3 => exact ⟨_, _, _, _, _, _, _, _, e1, e2, e3, trivial, by simp only [PT.hd]; omega⟩
  | nev => simp [PT.inst] at hi
  | var h q => simp [PT.inst] at hi; omega
  | un c e1 e2 e3 r => exact ⟨_, _, _, _, _, _, _, _, e1, e2, e3, ⟨r, trivial⟩, by simp only [PT.hd]; omega⟩
  | two e1 e2 e3 r r' => exact ⟨_, _, _, _, _, _, _, _, e1, e2, e3, ⟨r, r', trivial⟩, by simp only [PT.hd]; omega⟩

theorem PT.ty_cases : ∀ {t : PT}, t.ty → t = .leaf 9 ∨ t.inst = true
  | .leaf c, h => by
    rcases h with h | h
    · exact .inr (by simp [PT.inst, h])
    · exact .inl (by rw [h])
  | .un _ _, _ => .inr rfl
  | .two _ _, _ => .inr rfl
/-- the ids -/
inductive IdIs : Gm → Addr → Int → Prop where
  | mk {g : Gm} {a d : Addr} {i : Int} {t1 t2 t3 t4 n : Nat} {h1 h2 : Int} : g a = some (ins 189 d) → g d = some (dct [key h1 t1 "raw_id" (.int i t3), key h2 t2 "meta_level" (.int 0 t4)] n) → IdIs g a i
theorem IdIs.mono {g g' : Gm} {a : Addr} {i : Int} (l : Le g g') (h : IdIs g a i) : IdIs g' a i := by
  cases h with | mk e1 e2 => exact .mk (l _ _ e1) (l _ _ e2)
/-- the variables -/
inductive VarIs : Gm → Wo → Addr → Addr → Int → Prop where
  | mk {g : Gm} {W : Wo} {a d i vs : Addr} {v : Int} {t1 t2 t3 t4 t5 t6 t7 n m : Nat} {h1 h2 h3 h4 h5 : Int} {x : Str} : g a = some (ins 232 d) →
      g d = some (dct [key h1 t1 "name" (.str x t6), key h2 t2 "id" (.ref i), key h3 t3 "upper_bound" (.ref W.root), key h4 t4 "values" (.ref vs), key h5 t5 "variance" (.int v t7)] n) → g vs = some (lstO [] m) → VarIs g W a i v
theorem VarIs.mono {g g' : Gm} {W : Wo} {a i : Addr} {v : Int} (l : Le g g') (h : VarIs g W a i v) : VarIs g' W a i v := by
  cases h with | mk e1 e2 e3 => exact .mk (l _ _ e1) (l _ _ e2) (l _ _ e3)

def tvs (W : Wo) : Nat → List Value
  | 4 => [.ref W.R]
  | 5 => [.ref W.Fl]
  | 6 => [.ref W.R, .ref W.Fl]
  | _ => []
/-- a class -/
inductive InfoIs : Gm → Wo → Nat → Prop where
  | mk {g : Gm} {W : Wo} {k : Nat} {d dn dd tl tv bl ml : Addr} {t0 t1 t2 t3 t4 t5 t6 n n0 n1 n2 n3 n4 : Nat} {h0 h1 h2 h3 h4 h5 : Int} {names bs : List Value} :
      g (W.I k) = some (ins 92 d) →
      g d = some (dct [key h0 t0 "fullname" (.str (W.N k) t5), key h1 t1 "defn" (.ref dn), key h2 t2 "type_vars" (.ref tl), key h3 t3 "bases" (.ref bl), key h4 t4 "mro" (.ref ml)] n) →
      g dn = some (ins 66 dd) → g dd = some (dct [key h5 t6 "type_vars" (.ref tv)] n0) → g tv = some (lstO (tvs W k) n1) →
      g tl = some (lstO names n2) → names.length = (tvs W k).length →
      g bl = some (lstO bs n3) → (k = 0 → bs = []) → (k ≠ 0 → ∃ b, bs = [.ref b] ∧ TyIs g W b (.leaf (W.par k))) →
      g ml = some (lstO ((W.mro k).map fun i => .ref (W.I i)) n4) → InfoIs g W k
theorem InfoIs.mono {g g' : Gm} {W : Wo} {k : Nat} (l : Le g g') (h : InfoIs g W k) : InfoIs g' W k := by
  cases h with
  | mk e1 e2 e3 e4 e5 e6 q e7 b0 b1 e8 =>
    exact .mk (l _ _ e1) (l _ _ e2) (l _ _ e3) (l _ _ e4) (l _ _ e5) (l _ _ e6) q (l _ _ e7) b0 (fun z => let ⟨b, x, y⟩ := b1 z; ⟨b, x, y.mono l⟩) (l _ _ e8)

structure WoIs (g : Gm) (W : Wo) : Prop where
  info : ∀ k, k < 7 → InfoIs g W k
  rootIs : TyIs g W W.root (.leaf 0)
  rise : ∃ i, VarIs g W W.R i 1
  fall : ∃ i, VarIs g W W.Fl i 2
  vars : ∀ j, j < 2 → VarIs g W (W.V j) (W.vi j) 0 ∧ IdIs g (W.vi j) (j + 1)
  par1 : W.par 1 = 0
  par2 : W.par 2 < 2
  par3 : W.par 3 < 3
  par4 : W.par 4 = 0
  par5 : W.par 5 = 0
  par6 : W.par 6 = 0
  name : ∀ k, k < 7 → W.N k = nm k
  inj : ∀ j k, j < 7 → k < 7 → W.I j = W.I k → j = k
theorem WoIs.mono {g g' : Gm} {W : Wo} (l : Le g g') (h : WoIs g W) : WoIs g' W :=
  ⟨fun k hk => (h.info k hk).mono l, h.rootIs.mono l, let ⟨i, x⟩ := h.rise; ⟨i, x.mono l⟩, let ⟨i, x⟩ := h.fall; ⟨i, x.mono l⟩, fun j hj => ⟨(h.vars j hj).1.mono l, (h.vars j hj).2.mono l⟩, h.par1, h.par2, h.par3, h.par4, h.par5, h.par6, h.name, h.inj⟩

theorem WoIs.nmEq {g : Gm} {W : Wo} (h : WoIs g W) {j k : Nat} (hj : j < 7) (hk : k < 7) : (W.N j).cps.toList.beq (W.N k).cps.toList = (j == k) := by
  rw [h.name j hj, h.name k hk]
  have z : ∀ j, j < 7 → ∀ k, k < 7 → (nm j).cps.toList.beq (nm k).cps.toList = (j == k) := by decide +kernel
  exact z j hj k hk
theorem WoIs.parLt {g : Gm} {W : Wo} (h : WoIs g W) {k : Nat} (hk : k < 7) (h0 : k ≠ 0) : W.par k < k := by
  have := h.par1; have := h.par2; have := h.par3; have := h.par4; have := h.par5; have := h.par6
  have : k = 1 ∨ k = 2 ∨ k = 3 ∨ k = 4 ∨ k = 5 ∨ k = 6 := by omega
  rcases this with rfl | rfl | rfl | rfl | rfl | rfl <;> omega
theorem WoIs.ancLt {g : Gm} {W : Wo} (h : WoIs g W) : ∀ (n k : Nat), k < 7 → ∀ x ∈ W.anc n k, x < 7
  | 0, k, hk, x, m => by
    simp only [Wo.anc, List.mem_singleton] at m
    omega
  | n + 1, k, hk, x, m => by
    unfold Wo.anc at m
    by_cases h0 : k = 0
    · rw [if_pos h0] at m
      simp only [List.mem_singleton] at m
      omega
    · rw [if_neg h0] at m
      rcases List.mem_cons.mp m with rfl | m
      · exact hk
      · exact h.ancLt n _ (Nat.lt_trans (h.parLt hk h0) hk) x m
theorem WoIs.mroLt {g : Gm} {W : Wo} (h : WoIs g W) {k : Nat} (hk : k < 7) : ∀ x ∈ W.mro k, x < 7 := h.ancLt 7 k hk
theorem mro_cons (W : Wo) (k : Nat) : ∃ rest, W.mro k = k :: rest := by
  unfold Wo.mro Wo.anc
  by_cases h : k = 0
  · subst h; exact ⟨[], by simp⟩
  · exact ⟨_, by rw [if_neg h]⟩
theorem InfoIs.inv {g : Gm} {W : Wo} {k : Nat} (h : InfoIs g W k) : ∃ d dn dd tl tv bl ml t0 t1 t2 t3 t4 t5 t6 n n0 n1 n2 n3 n4 h0 h1 h2 h3 h4 h5 names bs,
      g (W.I k) = some (Mine.ins 92 d) ∧
      g d = some (dct [key h0 t0 "fullname" (.str (W.N k) t5), key h1 t1 "defn" (.ref dn), key h2 t2 "type_vars" (.ref tl), key h3 t3 "bases" (.ref bl), key h4 t4 "mro" (.ref ml)] n) ∧
      g dn = some (Mine.ins 66 dd) ∧ g dd = some (dct [key h5 t6 "type_vars" (.ref tv)] n0) ∧ g tv = some (lstO (tvs W k) n1) ∧
      g tl = some (lstO names n2) ∧ names.length = (tvs W k).length ∧
      g bl = some (lstO bs n3) ∧ (k = 0 → bs = []) ∧ (k ≠ 0 → ∃ b, bs = [.ref b] ∧ TyIs g W b (.leaf (W.par k))) ∧
      g ml = some (lstO ((W.mro k).map fun i => .ref (W.I i)) n4) := by
  cases h with | mk e1 e2 e3 e4 e5 e6 q e7 b0 b1 e8 => exact ⟨_, _, _, _, _, _, _, _, _, _, _, _, _, _, _, _, _, _, _, _, _, _, _, _, _, _, _, _, e1, e2, e3, e4, e5, e6, q, e7, b0, b1, e8⟩
theorem InfoIs.ins {g : Gm} {W : Wo} {k : Nat} (h : InfoIs g W k) : ∃ d, g (W.I k) = some (ins 92 d) := by
  cases h with | mk e1 => exact ⟨_, e1⟩
theorem WoIs.ins {g : Gm} {W : Wo} (h : WoIs g W) {k : Nat} (hk : k < 7) : ∃ d, g (W.I k) = some (Mine.ins 92 d) := (h.info k hk).ins
open Lean Elab Tactic in
def showT : TacticM Unit := do
  for g in ← getGoals do
    let t ← g.getType
    if t.isAppOf ``Cd then logInfo m!"Cd {t.getAppArgs[3]!} {t.getAppArgs[5]!} {t.getAppArgs[6]!}  {t.getAppArgs[7]!} {t.getAppArgs[8]!.getAppFn}"
    else logInfo m!"{t.getAppFn} {t.getAppArgs.back!.appArg!}"
open Lean Elab Tactic in
/-- the walk with the usual way to a premise -/
def walk (specs : List Name := []) (fuel : Nat := 3000) : TacticM Unit :=
  walkTac specs (do evalTactic (← `(tactic| first | assumption | rfl | omega))) fuel
end Mine

/-! C1 -/
namespace Mine
open PySem PySem.W PySem.W.X

theorem ueq_nev (y : Wd) (g : Gm) (hK : KIn (tops y) g) (W : Wo) (d u : Nat) (hd : d + 9 < recursionLimit) (hu : u + 60 < cLine) (a b : Addr)
   (ha : TyIs g W a (.leaf 9)) (hb : TyIs g W b (.leaf 9)) :
    Pu (cx y) g d u (.call (.ref 297) ⟨[.ref a, .ref b], []⟩) (fun g' r => ∃ bl, r = .ok (.ret (.bool bl))) := by
  have zz_ := ha.nev_inv
  obtain ⟨_, _, _, _, _, f1, f2⟩ := zz_
  have zz_ := hb.nev_inv
  obtain ⟨_, _, _, _, _, f3, f4⟩ := zz_
  refine pu_of fun F ρ tk R hk K => ?_
  run_tac walk
  all_goals exact K _ _ _ _ _ hle ⟨_, rfl⟩
theorem ueq_ins (y : Wd) (g : Gm) (hK : KIn (tops y) g) (W : Wo) (d u : Nat) (hd : d + 9 < recursionLimit) (hu : u + 60 < cLine) (a b : Addr) (t : PT) (ht : t.inst = true)
   (ha : TyIs g W a (.leaf 9)) (hb : TyIs g W b t) :
    Pu (cx y) g d u (.call (.ref 297) ⟨[.ref a, .ref b], []⟩) (fun g' r => r = .ok (.ret (.bool false))) := by
  have zz_ := ha.nev_inv
  obtain ⟨_, _, _, _, _, f1, f2⟩ := zz_
  have zz_ := hb.inst_inv ht
  obtain ⟨_, _, _, _, _, _, _, _, f3, f4, f5, f6, _⟩ := zz_
  refine pu_of fun F ρ tk R hk K => ?_
  run_tac walk
  all_goals exact K _ _ _ _ _ hle rfl
theorem ieq_nev (y : Wd) (g : Gm) (hK : KIn (tops y) g) (W : Wo) (d u : Nat) (hd : d + 9 < recursionLimit) (hu : u + 60 < cLine) (a b : Addr) (t : PT) (ht : t.inst = true)
   (ha : TyIs g W a t) (hb : TyIs g W b (.leaf 9)) :
    Pu (cx y) g d u (.call (.ref 356) ⟨[.ref a, .ref b], []⟩) (fun g' r => r = .ok (.ret .notImplemented)) := by
  have zz_ := ha.inst_inv ht
  obtain ⟨_, _, _, _, _, _, _, _, f3, f4, f5, f6, _⟩ := zz_
  have zz_ := hb.nev_inv
  obtain ⟨_, _, _, _, _, f1, f2⟩ := zz_
  refine pu_of fun F ρ tk R hk K => ?_
  run_tac walk
  all_goals exact K _ _ _ _ _ hle rfl

def EqOr (bl : Bool) (l r : PT) : Prop := bl = true → l = r
theorem EqOr.use {bl : Bool} {l r : PT} (h : EqOr bl l r) (w : (!bl) = false) : l = r := h (by simpa using w)
def ieqSpec (y : Wd) (W : Wo) (n : Nat) : Prop := ∀ (l r : PT) (g : Gm) (d u : Nat) (a b : Addr), l.inst = true → r.inst = true → l.ty → r.ty → l.dep ≤ n → KIn (tops y) g → WoIs g W → d + (6 * n + 9) < recursionLimit → u + (40 * n + 60) < cLine → TyIs g W a l → TyIs g W b r →
    Pu (cx y) g d u (.call (.ref 356) ⟨[.ref a, .ref b], []⟩) (fun g' res => ∃ bl, res = .ok (.ret (.bool bl)) ∧ EqOr bl l r)
/-- a type's class and dict, whatever it is -/
def FaceIs (g : Gm) (W : Wo) (a : Addr) (t : PT) : Prop :=
  (t = .leaf 9 ∧ ∃ d h1 t1 b n, g a = some (ins 300 d) ∧ g d = some (dct [key h1 t1 "ambiguous" (.bool b)] n)) ∨
  (t.inst = true ∧ ∃ d tp vs h1 t1 h2 t2 n, g a = some (ins 366 d) ∧ g d = some (dct [key h1 t1 "type" (.ref (W.I t.hd)), key h2 t2 "args" (.ref tp)] n) ∧ g tp = some (tupO vs))
theorem TyIs.face {g : Gm} {W : Wo} {a : Addr} {t : PT} (h : TyIs g W a t) (ht : t.ty) : FaceIs g W a t := by
  have zz_ := PT.ty_cases ht
  rcases zz_ with rfl | hi
  · exact .inl ⟨rfl, h.nev_inv⟩
  · have zz_ := h.inst_inv hi
    obtain ⟨d, tp, vs, h1, t1, h2, t2, n, e1, e2, e3, _⟩ := zz_
    exact .inr ⟨hi, d, tp, vs, h1, t1, h2, t2, n, e1, e2, e3⟩
theorem TyIs.hd7 {g : Gm} {W : Wo} {a : Addr} {t : PT} (h : TyIs g W a t) (hi : t.inst = true) : t.hd < 7 := by
  have zz_ := h.inst_inv hi
  obtain ⟨_, _, _, _, _, _, _, _, _, _, _, _, q⟩ := zz_
  exact q
/-- without arguments, or of different classes -/
theorem ieq_leaf (y : Wd) (W : Wo) (j k : Nat) (j4 : j < 4) (k4 : k < 4) (g : Gm) (d u : Nat) (a b : Addr) (hK : KIn (tops y) g) (hW : WoIs g W) (hd : d + 9 < recursionLimit) (hu : u + 60 < cLine) (ha : TyIs g W a (.leaf j)) (hb : TyIs g W b (.leaf k)) :
    Pu (cx y) g d u (.call (.ref 356) ⟨[.ref a, .ref b], []⟩) (fun g' res => ∃ bl, res = .ok (.ret (.bool bl)) ∧ EqOr bl (PT.leaf j) (PT.leaf k)) := by
  have zz_ := hW.ins (k := j) (by omega)
  obtain ⟨_, i1⟩ := zz_
  have zz_ := hW.ins (k := k) (by omega)
  obtain ⟨_, i2⟩ := zz_
  have zz_ := ha.cls_inv j4
  obtain ⟨_, _, _, _, _, _, _, f1, f2, f3⟩ := zz_
  have zz_ := hb.cls_inv k4
  obtain ⟨_, _, _, _, _, _, _, f4, f5, f6⟩ := zz_
  refine pu_of fun F ρ tk R hk K => ?_
  run_tac walk
  · exact K _ _ _ _ _ hle ⟨_, rfl, fun _ => by rw [hW.inj j k (by omega) (by omega) way]⟩
  · exact K _ _ _ _ _ hle ⟨_, rfl, fun e => nomatch e⟩
theorem ieq_apart (y : Wd) (W : Wo) (l r : PT) (hl : l.inst = true) (hr : r.inst = true) (ne : l.hd ≠ r.hd) (g : Gm) (d u : Nat) (a b : Addr) (hK : KIn (tops y) g) (hW : WoIs g W) (hd : d + 9 < recursionLimit) (hu : u + 60 < cLine) (ha : TyIs g W a l) (hb : TyIs g W b r) :
    Pu (cx y) g d u (.call (.ref 356) ⟨[.ref a, .ref b], []⟩) (fun g' res => ∃ bl, res = .ok (.ret (.bool bl)) ∧ EqOr bl l r) := by
  have zz_ := hW.ins (ha.hd7 hl)
  obtain ⟨_, i1⟩ := zz_
  have zz_ := hW.ins (hb.hd7 hr)
  obtain ⟨_, i2⟩ := zz_
  have ne' : W.I l.hd ≠ W.I r.hd := fun e => ne (hW.inj _ _ (ha.hd7 hl) (hb.hd7 hr) e)
  have zz_ := ha.inst_inv hl
  obtain ⟨_, _, _, _, _, _, _, _, f1, f2, f3, _⟩ := zz_
  have zz_ := hb.inst_inv hr
  obtain ⟨_, _, _, _, _, _, _, _, f4, f5, f6, _⟩ := zz_
  refine pu_of fun F ρ tk R hk K => ?_
  run_tac walk
  all_goals exact K _ _ _ _ _ hle ⟨_, rfl, fun e => nomatch e⟩
def entryVal (o : Obj) (i : Nat) : Value := match o.data with
  | .dict es _ => match es.toList[i]? with | some e => e.val | none => .none
  | _ => .none
def seqVals (o : Obj) : List Value := match o.data with
  | .seq xs _ => xs.toList
  | _ => []
theorem KidsAre.one {g : Gm} {W : Wo} {vs : List Value} {t : PT} (h : KidsAre g W vs [t]) : ∃ b, vs = [.ref b] ∧ TyIs g W b t := by
  match vs, h with
  | [.ref b], h => exact ⟨b, rfl, h.1⟩
theorem KidsAre.two {g : Gm} {W : Wo} {vs : List Value} {t u : PT} (h : KidsAre g W vs [t, u]) : ∃ b b', vs = [.ref b, .ref b'] ∧ TyIs g W b t ∧ TyIs g W b' u := by
  match vs, h with
  | [.ref b, .ref b'], h => exact ⟨b, b', rfl, h.1, h.2.1⟩
theorem TyIs.fun {g : Gm} {W : Wo} (hW : WoIs g W) : ∀ {t u : PT} {a : Addr}, TyIs g W a t → TyIs g W a u → t.ty → u.ty → t = u := by
  have key : ∀ {t u : PT} {a : Addr}, t.inst = true → u.inst = true → TyIs g W a t → TyIs g W a u → t.hd = u.hd ∧ ∃ vs, KidsAre g W vs t.kids ∧ KidsAre g W vs u.kids := by
    intro t u a ht hu h h'
    have zz_ := h.inst_inv ht
    obtain ⟨d, tp, vs, h1, t1, h2, t2, n, e1, e2, e3, k, q⟩ := zz_
    have zz_ := h'.inst_inv hu
    obtain ⟨d', tp', vs', h1', t1', h2', t2', n', e1', e2', e3', k', q'⟩ := zz_
    have z1 := Option.some.inj (e1.symm.trans e1')
    have z1 : some d = some d' := congrArg Obj.dict z1
    cases z1
    have z2 := Option.some.inj (e2.symm.trans e2')
    have w1 : Value.ref (W.I t.hd) = Value.ref (W.I u.hd) := congrArg (entryVal · 0) z2
    have w2 : Value.ref tp = Value.ref tp' := congrArg (entryVal · 1) z2
    cases w2
    have z3 := Option.some.inj (e3.symm.trans e3')
    have w3 : vs = vs' := congrArg seqVals z3
    cases w3
    exact ⟨hW.inj _ _ q q' (Value.ref.inj w1), vs, k, k'⟩
  have nev : ∀ {u : PT} {a : Addr}, TyIs g W a (.leaf 9) → TyIs g W a u → u.inst = true → False := by
    intro u a h h' hu
    have zz_ := h.nev_inv
    obtain ⟨_, _, _, _, _, e1, _⟩ := zz_
    have zz_ := h'.inst_inv hu
    obtain ⟨_, _, _, _, _, _, _, _, e1', _⟩ := zz_
    have z := Option.some.inj (e1.symm.trans e1')
    have z : Value.ref 300 = Value.ref 366 := congrArg Obj.cls z
    exact absurd (Value.ref.inj z) (by decide)
  intro t
  induction t with
  | leaf j =>
    intro u a h h' ht hu
    have zz_ := PT.ty_cases ht
    rcases zz_ with e | hi
    · rw [e] at h ⊢
      have zz_ := PT.ty_cases hu
      rcases zz_ with e' | hi'
      · exact e'.symm
      · exact (nev h h' hi').elim
    · have zz_ := PT.ty_cases hu
      rcases zz_ with e' | hi'
      · rw [e'] at h'
        exact (nev h' h hi).elim
      · have zz_ := key hi hi' h h'
        obtain ⟨e, _⟩ := zz_
        have j4 : j < 4 := by simpa [PT.inst] using hi
        cases u with
        | leaf k => exact congrArg PT.leaf e
        | un c t =>
          simp only [PT.hd] at e
          have := hu.1
          omega
        | two => simp only [PT.hd] at e; omega
  | un c t ih =>
    intro u a h h' ht hu
    have zz_ := PT.ty_cases hu
    rcases zz_ with e' | hi'
    · rw [e'] at h'
      exact (nev h' h rfl).elim
    · have zz_ := key rfl hi' h h'
      obtain ⟨e, vs, k, k'⟩ := zz_
      cases u with
      | leaf k =>
        have j4 : k < 4 := by simpa [PT.inst] using hi'
        simp only [PT.hd] at e
        have := ht.1
        omega
      | un c' t' =>
        simp only [PT.hd] at e
        subst e
        have zz_ := KidsAre.one k
        obtain ⟨b, rfl, x⟩ := zz_
        have zz_ := KidsAre.one k'
        obtain ⟨b', q, x'⟩ := zz_
        cases q
        rw [ih x x' ht.2 hu.2]
      | two => simp only [PT.hd] at e; have := ht.1; omega
  | two t u ih ih' =>
    intro v a h h' ht hu
    have zz_ := PT.ty_cases hu
    rcases zz_ with e' | hi'
    · rw [e'] at h'
      exact (nev h' h rfl).elim
    · have zz_ := key rfl hi' h h'
      obtain ⟨e, vs, k, k'⟩ := zz_
      cases v with
      | leaf k =>
        have j4 : k < 4 := by simpa [PT.inst] using hi'
        simp only [PT.hd] at e
        omega
      | un c' t' => simp only [PT.hd] at e; have := hu.1; omega
      | two t' u' =>
        have zz_ := KidsAre.two k
        obtain ⟨b, b', rfl, x, y⟩ := zz_
        have zz_ := KidsAre.two k'
        obtain ⟨c, c', q, x', y'⟩ := zz_
        cases q
        rw [ih x x' ht.1 hu.1, ih' y y' ht.2 hu.2]
theorem ieq_un (y : Wd) (W : Wo) (n : Nat) (ih : ieqSpec y W n) (c k : Nat) (t t' : PT) (g : Gm) (d u : Nat) (a b : Addr) (tl : (PT.un c t).ty) (tr : (PT.un k t').ty) (dl : t.dep ≤ n) (hK : KIn (tops y) g) (hW : WoIs g W) (hd0 : d + (6 * (n + 1) + 9) < recursionLimit) (hu0 : u + (40 * (n + 1) + 60) < cLine) (ha : TyIs g W a (.un c t)) (hb : TyIs g W b (.un k t')) :
    Pu (cx y) g d u (.call (.ref 356) ⟨[.ref a, .ref b], []⟩) (fun g' res => ∃ bl, res = .ok (.ret (.bool bl)) ∧ EqOr bl (PT.un c t) (PT.un k t')) := by
  unfold ieqSpec at ih
  have hd : d + 15 < recursionLimit := by omega
  have hu : u + 100 < cLine := by omega
  have tt := tl.2
  have tt' := tr.2
  have zz_ := hW.ins (ha.hd7 rfl)
  obtain ⟨_, i1⟩ := zz_
  have zz_ := hW.ins (hb.hd7 rfl)
  obtain ⟨_, i2⟩ := zz_
  simp only [PT.hd] at i1 i2
  have zz_ := ha.un_inv
  obtain ⟨hc, _, _, x, _, _, _, _, _, f1, f2, f3, h0⟩ := zz_
  have zz_ := hb.un_inv
  obtain ⟨hc', _, _, x', _, _, _, _, _, f4, f5, f6, h1⟩ := zz_
  by_cases ck : c = k
  case neg => exact ieq_apart y W (.un c t) (.un k t') rfl rfl ck g d u a b hK hW (by omega) (by omega) ha hb
  subst ck
  clear ha hb
  have zz_ := h0.face tt
  rcases zz_ with ⟨rfl, _, _, _, _, _, f7, f8⟩ | ⟨q1, _, _, _, _, _, _, _, _, f7, f8, f9⟩
  · have zz_ := h1.face tt'
    rcases zz_ with ⟨rfl, _, _, _, _, _, f10, f11⟩ | ⟨q2, _, _, _, _, _, _, _, _, f10, f11, f12⟩
    · refine pu_of fun F ρ tk R hk K => ?_
      run_tac walk [``ueq_nev, ``ueq_ins, ``ieq_nev]
      all_goals refine K _ _ _ _ _ hle ⟨_, rfl, fun e => ?_⟩
      all_goals first | rfl | (exact absurd e (by decide))
    · refine pu_of fun F ρ tk R hk K => ?_
      run_tac walk [``ueq_nev, ``ueq_ins, ``ieq_nev]
      all_goals refine K _ _ _ _ _ hle ⟨_, rfl, fun e => ?_⟩
      all_goals first | (exact absurd e (by decide)) | (obtain rfl := Value.ref.inj way; exact absurd (h0.fun hW h1 (.inr rfl) tt') (by intro z; subst z; simp [PT.inst] at q2))
  · have zz_ := h1.face tt'
    rcases zz_ with ⟨rfl, _, _, _, _, _, f10, f11⟩ | ⟨q2, _, _, _, _, _, _, _, _, f10, f11, f12⟩
    · refine pu_of fun F ρ tk R hk K => ?_
      run_tac walk [``ueq_nev, ``ueq_ins, ``ieq_nev]
      all_goals refine K _ _ _ _ _ hle ⟨_, rfl, fun e => ?_⟩
      all_goals first | (exact absurd e (by decide)) | (obtain rfl := Value.ref.inj way; exact absurd (h0.fun hW h1 tt tt') (by intro z; subst z; simp [PT.inst] at q1))
    · refine pu_of fun F ρ tk R hk K => ?_
      run_tac walk [``ueq_nev, ``ueq_ins, ``ieq_nev]
      all_goals refine K _ _ _ _ _ hle ⟨_, rfl, fun e => ?_⟩
      all_goals first | (exact absurd e (by decide)) | (obtain rfl := Value.ref.inj way; rw [h0.fun hW h1 tt tt']) | (rw [EqOr.use ‹EqOr _ t t'› ‹_›])

theorem ieq_two (y : Wd) (W : Wo) (n : Nat) (ih : ieqSpec y W n) (t v t' v' : PT) (g : Gm) (d u : Nat) (a b : Addr) (tl : (PT.two t v).ty) (tr : (PT.two t' v').ty) (dl : t.dep ≤ n) (dl' : v.dep ≤ n) (hK : KIn (tops y) g) (hW : WoIs g W) (hd0 : d + (6 * (n + 1) + 9) < recursionLimit) (hu0 : u + (40 * (n + 1) + 60) < cLine) (ha : TyIs g W a (.two t v)) (hb : TyIs g W b (.two t' v')) :
    Pu (cx y) g d u (.call (.ref 356) ⟨[.ref a, .ref b], []⟩) (fun g' res => ∃ bl, res = .ok (.ret (.bool bl)) ∧ EqOr bl (PT.two t v) (PT.two t' v')) := by
  unfold ieqSpec at ih
  have hd : d + 15 < recursionLimit := by omega
  have hu : u + 100 < cLine := by omega
  have tt := tl.1
  have tt' := tr.1
  have tv := tl.2
  have tv' := tr.2
  have zz_ := hW.ins (ha.hd7 rfl)
  obtain ⟨_, i1⟩ := zz_
  have zz_ := hW.ins (hb.hd7 rfl)
  obtain ⟨_, i2⟩ := zz_
  simp only [PT.hd] at i1 i2
  have zz_ := ha.two_inv
  obtain ⟨_, _, x, z, _, _, _, _, _, f1, f2, f3, h0, h0'⟩ := zz_
  have zz_ := hb.two_inv
  obtain ⟨_, _, x', z', _, _, _, _, _, f4, f5, f6, h1, h1'⟩ := zz_
  clear ha hb
  have F0 : ∀ {p q : PT} {o : Addr}, TyIs g W o p → TyIs g W o q → p.ty → q.ty → p = q := fun h h' => h.fun hW h'
  rcases h0.face tt with ⟨rfl, _, _, _, _, _, e1, e2⟩ | ⟨q1, _, _, _, _, _, _, _, _, e1, e2, e3⟩ <;>
  rcases h1.face tt' with ⟨rfl, _, _, _, _, _, e4, e5⟩ | ⟨q2, _, _, _, _, _, _, _, _, e4, e5, e6⟩ <;>
  rcases h0'.face tv with ⟨rfl, _, _, _, _, _, e7, e8⟩ | ⟨q3, _, _, _, _, _, _, _, _, e7, e8, e9⟩ <;>
  rcases h1'.face tv' with ⟨rfl, _, _, _, _, _, e10, e11⟩ | ⟨q4, _, _, _, _, _, _, _, _, e10, e11, e12⟩
  all_goals
    refine pu_of fun F ρ tk R hk K => ?_
    run_tac walk [``ueq_nev, ``ueq_ins, ``ieq_nev]
    all_goals refine K _ _ _ _ _ hle ⟨_, rfl, fun e => ?_⟩
  all_goals first
    | (exact absurd e (by decide))
    | (refine congr (congrArg PT.two ?_) ?_ <;> first
        | rfl
        | exact F0 h0 (Value.ref.inj ‹Value.ref x = Value.ref x'› ▸ h1) tt tt'
        | exact F0 h0' (Value.ref.inj ‹Value.ref z = Value.ref z'› ▸ h1') tv tv'
        | exact EqOr.use (by assumption) (by assumption))
theorem ieq_ok (y : Wd) (W : Wo) : ∀ n, ieqSpec y W n := by
  intro n
  induction n with
  | zero =>
    intro l r g d u a b hl hr tl tr dl hK hW hd0 hu0 ha hb
    by_cases e : l.hd = r.hd
    · cases l with
      | un => simp [PT.dep] at dl
      | two => simp [PT.dep] at dl
      | leaf j =>
        have j4 : j < 4 := by simpa [PT.inst] using hl
        cases r with
        | leaf k => exact ieq_leaf y W j k j4 (by simpa [PT.inst] using hr) g d u a b hK hW (by omega) (by omega) ha hb
        | un c t => simp only [PT.hd] at e; have := tr.1; omega
        | two => simp only [PT.hd] at e; omega
    · exact ieq_apart y W l r hl hr e g d u a b hK hW (by omega) (by omega) ha hb
  | succ n ih =>
    intro l r g d u a b hl hr tl tr dl hK hW hd0 hu0 ha hb
    by_cases e : l.hd = r.hd
    · cases l with
      | leaf j =>
        have j4 : j < 4 := by simpa [PT.inst] using hl
        cases r with
        | leaf k => exact ieq_leaf y W j k j4 (by simpa [PT.inst] using hr) g d u a b hK hW (by omega) (by omega) ha hb
        | un c t => simp only [PT.hd] at e; have := tr.1; omega
        | two => simp only [PT.hd] at e; omega
      | un c t =>
        simp only [PT.dep] at dl
        cases r with
        | leaf k =>
          have k4 : k < 4 := by simpa [PT.inst] using hr
          simp only [PT.hd] at e; have := tl.1; omega
        | un c' t' => exact ieq_un y W n ih c c' t t' g d u a b tl tr (by omega) hK hW hd0 hu0 ha hb
        | two => simp only [PT.hd] at e; have := tl.1; omega
      | two t v =>
        simp only [PT.dep] at dl
        cases r with
        | leaf k =>
          have k4 : k < 4 := by simpa [PT.inst] using hr
          simp only [PT.hd] at e; omega
        | un c' t' => simp only [PT.hd] at e; have := tr.1; omega
        | two t' v' => exact ieq_two y W n ih t v t' v' g d u a b tl tr (by omega) (by omega) hK hW hd0 hu0 ha hb
    · exact ieq_apart y W l r hl hr e g d u a b hK hW (by omega) (by omega) ha hb
end Mine

/-! Iter -/
namespace Mine
open PySem PySem.W PySem.W.X PySem.Calls PyProof.Rows
theorem codeAny_slot {prog : Program} {w : World} {A : Around} {s : Shared} {T : String} {name : Str} {id : String} {B : Builtin} {self : Value} {rest : List Value} {R : Result → Shared → Prop} (slot : Slot T name id) (hT : s.TypeIs self T)
    (entry : entryFor table id = some B) (args : argsOk id ⟨self :: rest, []⟩)
    (h : wpAny (model prog w) A.in1 (B ⟨self :: rest, []⟩) (fun fin s' => match fin with | .done f => R (.ok f) s' | .again c' => c'.quiet = true ∧ codeAny (model prog w) A c' R s') (fun e s' => R (.error e) s') s) :
    codeAny (model prog w) A (.call (.builtin id) ⟨self :: rest, []⟩) R s :=
  codeAny_call_builtin slot.plain entry (slot.check _ _ _ _ _ _ _ _ hT args h)
def liO (l : Addr) (i : Int) : Obj := ⟨.type "list_iterator", none, .fields ⟨[.ref l, .int i 0]⟩, #[]⟩
def liE (i : Int) : Obj := ⟨.type "list_iterator", none, .fields ⟨[.none, .int i 0]⟩, #[]⟩
theorem next_item (X : Cx) (g : Gm) (d u : Nat) (it l : Addr) (i : Nat) (vs : List Value) (m : Nat) (v : Value) (hl : g l = some (lstO vs m)) (hx : vs[i]? = some v) :
    PuL X g d u (.call (.builtin "list_iterator.__next__") ⟨[.ref it], []⟩) it (liO l i) (fun g' o' r => o' = liO l (i + 1 : Nat) ∧ r = .ok (.ret v)) := fun h tk hg ho hn R K => by
  have hol := hg _ _ hl
  have hd : (liO l i).data = .fields #[.ref l, .int i 0] := rfl
  have hx' : (⟨vs⟩ : Array Value)[i]? = some v := by simpa using hx
  refine codeAny_slot (s := X.sh h tk) slot_listiter_next ⟨_, ho, rfl⟩ entry_listiter_next (args_listiter_next _) ?_
  show wpAny _ _ (field (.ref it) 0 >>= _) _ _ _
  refine wpAny_bind (wpAny_field ho hd (x := .ref l) rfl ?_)
  show wpAny _ _ (if (Value.ref l == Value.none) = true then _ else _) _ _ _
  rw [if_neg (show ¬ ((Value.ref l == Value.none) = true) from Bool.false_ne_true)]
  show wpAny _ _ (field (.ref it) 1 >>= _) _ _ _
  refine wpAny_bind (wpAny_field ho hd (x := .int i 0) rfl ?_)
  show wpAny _ _ (seqItems? (.ref l) >>= _) _ _ _
  refine wpAny_bind (wpAny_seqItems hol rfl ?_)
  simp only [Int.toNat_natCast, hx']
  have hs : Heap.SameBut it h (h.update it (Obj.mapFields fun xs => xs.setIfInBounds 1 (rawInt ((i : Int) + 1)))) := Heap.SameBut.update ..
  refine wpAny_bind (wpAny_setField ho hd (by simp) (wpAny_pure ?_))
  refine K g _ tk _ _ (Le.refl g) (fun b x q => ?_) (fun b x ne q => (hs.2 b ne).trans q) (Heap.get?_update_self _ ho rfl) (Nat.le_of_eq hs.1.symm) (fun _ _ => rfl) ⟨?_, rfl⟩
  · have : b ≠ it := fun e => by rw [e, hn] at q; cases q
    exact (hs.2 b this).trans (hg b x q)
  · rfl

def stopO (t : Addr) : Obj := ⟨.type "StopIteration", none, .fields ⟨[.ref t, .none, .none, .none, .bool false, .none]⟩, #[]⟩
theorem next_end (X : Cx) (g : Gm) (d u : Nat) (it l : Addr) (i : Nat) (vs : List Value) (m : Nat) (hl : g l = some (lstO vs m)) (hx : vs[i]? = none) :
    PuL X g d u (.call (.builtin "list_iterator.__next__") ⟨[.ref it], []⟩) it (liO l i) (fun g' o' r => o' = liE i ∧ ∃ t e, r = .error (.ref e) ∧ g' e = some (stopO t)) := fun h tk hg ho hn R K => by
  have hol := hg _ _ hl
  have hd : (liO l i).data = .fields #[.ref l, .int i 0] := rfl
  have hx' : (⟨vs⟩ : Array Value)[i]? = none := by simpa using hx
  refine codeAny_slot (s := X.sh h tk) slot_listiter_next ⟨_, ho, rfl⟩ entry_listiter_next (args_listiter_next _) ?_
  show wpAny _ _ (field (.ref it) 0 >>= _) _ _ _
  refine wpAny_bind (wpAny_field ho hd (x := .ref l) rfl ?_)
  show wpAny _ _ (if (Value.ref l == Value.none) = true then _ else _) _ _ _
  rw [if_neg (show ¬ ((Value.ref l == Value.none) = true) from Bool.false_ne_true)]
  show wpAny _ _ (field (.ref it) 1 >>= _) _ _ _
  refine wpAny_bind (wpAny_field ho hd (x := .int i 0) rfl ?_)
  show wpAny _ _ (seqItems? (.ref l) >>= _) _ _ _
  refine wpAny_bind (wpAny_seqItems hol rfl ?_)
  simp only [Int.toNat_natCast, hx']
  have hs : Heap.SameBut it h (h.update it (Obj.mapFields fun xs => xs.setIfInBounds 0 Value.none)) := Heap.SameBut.update ..
  have hit : (h.update it (Obj.mapFields fun xs => xs.setIfInBounds 0 Value.none)).get? it = some (liE i) := Heap.get?_update_self _ ho rfl
  refine wpAny_bind (wpAny_rule (wpAny_bind (wpAny_setField ho hd (by simp) ?_)))
  show wpAny _ _ (newExc (.type "StopIteration") [] >>= _) _ _ _
  refine wpAny_bind ?_
  simp only [newExc, newTuple]
  refine wpAny_bind (wpAny_newObj_type ?_ (by size_fits))
  refine wpAny_bind (m := firstArgMember _ _) (wpAny_of_eq (a := Value.none) (by first | rfl | (simp only [firstArgMember]; rfl)) ?_)
  refine wpAny_newObj_type ?_ (by size_fits)
  simp only [raiseNew]
  refine wpAny_bind (wpAny_handled ?_)
  rw [show (Ar d u).in1.handled = none from rfl]
  refine wpAny_bind (wpAny_pure (wpAny_throw ?_))
  generalize h.update it (Obj.mapFields fun xs => xs.setIfInBounds 0 Value.none) = h1 at hs hit
  have kp : ∀ (b : Addr) (x o1 o2 : Obj), b ≠ it → h.get? b = some x → ((h1.push o1).push o2).get? b = some x := fun b x o1 o2 ne q => Heap.get?_push_of_some _ (Heap.get?_push_of_some _ ((hs.2 b ne).trans q))
  refine K (updG g (h1.objs.size + 1) (stopO h1.objs.size)) _ tk _ _ (updG_le (none_of_size hg (by rw [hs.1]; exact Nat.le_succ _))) (fun b x q => ?_) (fun b x ne q => kp b x _ _ ne q) (Heap.get?_push_of_some _ (Heap.get?_push_of_some _ hit)) ?_ (fun b hb => if_neg (Nat.ne_of_lt (by rw [hs.1]; exact Nat.lt_succ_of_lt hb))) ⟨rfl, _, _, ?_, updG_at ..⟩
  · by_cases e : b = h1.objs.size + 1
    · subst e
      rw [updG_at] at q
      cases q
      have z : ∀ (t o : Obj), o.isFreed = false → ((h1.push t).push o).get? (h1.objs.size + 1) = some o := fun t o f => by
        have := Heap.get?_push_size (h1.push t) f
        rw [Heap.size_push] at this
        exact this
      exact z _ _ rfl
    · have w : updG g (h1.objs.size + 1) (stopO h1.objs.size) b = g b := if_neg e
      rw [w] at q
      have : b ≠ it := fun e => by rw [e, hn] at q; cases q
      exact kp b x _ _ this (hg b x q)
  · rw [Heap.size_push, Heap.size_push, hs.1]
    exact Nat.le_add_right _ 2
  · simp only [Heap.size_push]
end Mine

/-! Seq -/
namespace Mine
open PySem PySem.W PySem.W.X PySem.Calls PyProof.Rows
/-- the end of a contract that changes one object in place -/
theorem pul_done {X : Cx} {g : Gm} {a : Addr} {o o' : Obj} {h : Heap} {tk : Nat} {R : Result → Shared → Prop} {Post : Gm → Obj → Result → Prop} {r : Result} (hg : Inh g h) (ho : h.get? a = some o) (hn : g a = none)
    (K : ∀ g' h' tk' r o', Le g g' → Inh g' h' → (∀ b x, b ≠ a → h.get? b = some x → h'.get? b = some x) → h'.get? a = some o' → h.objs.size ≤ h'.objs.size → (∀ b, b < h.objs.size → g' b = g b) → Post g' o' r → R r (X.sh h' tk'))
    (f : Obj → Obj) (hf : f o = o') (hal : o'.isFreed = false) (hp : Post g o' r) : R r (X.sh (h.update a f) tk) := by
  have hs : Heap.SameBut a h (h.update a f) := Heap.SameBut.update ..
  refine K g _ tk _ o' (Le.refl g) (fun b x q => ?_) (fun b x ne q => (hs.2 b ne).trans q) ?_ (Nat.le_of_eq hs.1.symm) (fun _ _ => rfl) hp
  · have : b ≠ a := fun e => by rw [e, hn] at q; cases q
    exact (hs.2 b this).trans (hg b x q)
  · rw [← hf]
    exact Heap.get?_update_self _ ho (by rw [hf]; exact hal)
theorem line_size {n : Nat} (h : n ≤ 100000) : n ≤ sizeLine := Nat.le_trans h (by decide)
theorem list_extend_ok (X : Cx) (g : Gm) (d u : Nat) (a b : Addr) (xs ys : List Value) (m n : Nat) (hb : g b = some (lstO ys n)) (hl : xs.length + ys.length ≤ 100000) :
    PuL X g d u (.call (.builtin "list.extend") ⟨[.ref a, .ref b], []⟩) a (lstO xs m) (fun g' o' r => ∃ m', o' = lstO (xs ++ ys) m' ∧ r = .ok (.ret .none)) := fun h tk hg ho hn R K => by
  have h2 := hg _ _ hb
  have hs : (⟨xs⟩ : Array Value).size + (⟨ys⟩ : Array Value).size ≤ sizeLine := line_size hl
  refine codeAny_meets F.slot_list_extend (Heap.IsList.typeIs ⟨_, ho, rfl, m, rfl⟩) F.entry_list_extend (F.args_list_extend_2 _ _) (AutoSeq1.list_extend_list_list_0 a ⟨xs⟩ m b ⟨ys⟩ n (extend_door hs) (Nat.le_trans (Nat.le_add_right _ _) hs) (Nat.le_succ_of_le hs)) ⟨ho, h2, ?_⟩
  refine pul_done hg ho hn K _ (o' := lstO (xs ++ ys) (if ((⟨xs⟩ : Array Value) ++ ⟨ys⟩).size == (⟨xs⟩ : Array Value).size then m else m + 1)) ?_ rfl ⟨_, rfl, rfl⟩
  show Obj.mapSeq (fun x => x ++ _) _ = _
  rw [show lstO xs m = { cls := .type "list", dict := none, data := .seq ⟨xs⟩ m, slots := #[] } from rfl, mapSeq_app]
  simp [lstO]
theorem list_append_ok (X : Cx) (g : Gm) (d u : Nat) (a : Addr) (xs : List Value) (m : Nat) (v : Value) (hl : xs.length ≤ 100000) :
    PuL X g d u (.call (.builtin "list.append") ⟨[.ref a, v], []⟩) a (lstO xs m) (fun g' o' r => ∃ m', o' = lstO (xs ++ [v]) m' ∧ r = .ok (.ret .none)) := fun h tk hg ho hn R K => by
  refine codeAny_meets slot_list_append (Heap.IsList.typeIs ⟨_, ho, rfl, m, rfl⟩) entry_list_append (args_list_append _ _) (AutoListH.list_append_list_val_0 a ⟨xs⟩ m v (line_size hl)) ⟨ho, ?_⟩
  refine pul_done hg ho hn K _ (o' := lstO (xs ++ [v]) (if ((⟨xs⟩ : Array Value).push v).size == (⟨xs⟩ : Array Value).size then m else m + 1)) ?_ rfl ⟨_, rfl, rfl⟩
  show Obj.mk _ _ (.seq _ _) _ = Obj.mk _ _ (.seq _ _) _
  congr 2
  simp
theorem list_reverse_ok (X : Cx) (g : Gm) (d u : Nat) (a : Addr) (xs : List Value) (m : Nat) (hl : xs.length ≤ 100000) :
    PuL X g d u (.call (.builtin "list.reverse") ⟨[.ref a], []⟩) a (lstO xs m) (fun g' o' r => ∃ m', o' = lstO xs.reverse m' ∧ r = .ok (.ret .none)) := fun h tk hg ho hn R K => by
  refine codeAny_meets F.slot_list_reverse (Heap.IsList.typeIs ⟨_, ho, rfl, m, rfl⟩) F.entry_list_reverse (F.args_list_reverse_1 _) (AutoSeq1.list_reverse_list_0 a ⟨xs⟩ m (line_size hl)) ⟨ho, ?_⟩
  refine pul_done hg ho hn K _ (o' := lstO xs.reverse (if (⟨xs⟩ : Array Value).reverse.size == (⟨xs⟩ : Array Value).size then m else m + 1)) ?_ rfl ⟨_, rfl, rfl⟩
  show Obj.mk _ _ (.seq _ _) _ = Obj.mk _ _ (.seq _ _) _
  congr 2
  simp
end Mine

/-! Seq2 -/
namespace Mine
open PySem PySem.W PySem.W.X PySem.Calls PyProof.Rows
/-- the end of a contract that makes one object -/
theorem pu_new {X : Cx} {g : Gm} {o : Obj} {h : Heap} {tk : Nat} {R : Result → Shared → Prop} {Post : Gm → Result → Prop} {r : Result} (hg : Inh g h)
    (K : ∀ g' h' tk' r, Le g g' → Inh g' h' → (∀ b x, h.get? b = some x → h'.get? b = some x) → h.objs.size ≤ h'.objs.size → (∀ b, b < h.objs.size → g' b = g b) → Post g' r → R r (X.sh h' tk'))
    (hal : o.isFreed = false) (hp : ∀ g', Le g g' → g' h.objs.size = some o → Post g' r) : R r (X.sh (h.push o) tk) := by
  refine K (updG g h.objs.size o) _ tk _ (updG_le (none_of_size hg (Nat.le_refl _))) (fun b x q => ?_) (fun b x q => Heap.get?_push_of_some _ q) (by rw [Heap.size_push]; exact Nat.le_succ _) (fun b hb => if_neg (Nat.ne_of_lt hb)) (hp _ (updG_le (none_of_size hg (Nat.le_refl _))) (updG_at ..))
  by_cases w : b = h.objs.size
  · subst w
    rw [updG_at] at q
    cases q
    exact Heap.get?_push_size _ hal
  · have : updG g h.objs.size o b = g b := if_neg w
    rw [this] at q
    exact Heap.get?_push_of_some _ (hg b x q)
def slcO (lo hi st : Value) : Obj := ⟨.type "slice", none, .fields ⟨[lo, hi, st]⟩, #[]⟩
theorem list_slice_any (X : Cx) (g : Gm) (d u : Nat) (l sl : Addr) (xs : List Value) (m : Nat) (vl vu : Value) (lo hi : Option Int) (hl : g l = some (lstO xs m)) (hs : g sl = some (slcO vl vu .none)) (pl : IsPart vl lo) (pu : IsPart vu hi) (hz : xs.length ≤ 100000) :
    Pu X g d u (.call (.builtin "list.__getitem__") ⟨[.ref l, .ref sl], []⟩) (fun g' r => ∃ c, r = .ok (.ret (.ref c)) ∧ g' c = some (lstO (slicePick ⟨xs⟩ lo hi none).toList 0)) := fun h tk hg R K => by
  have hol := hg _ _ hl
  have hos := hg _ _ hs
  have hTs : (X.sh h tk).TypeIs (.ref sl) "slice" := ⟨_, hos, rfl⟩
  have hd : (lstO xs m).data = .seq ⟨xs⟩ m := rfl
  have hds : (slcO vl vu .none).data = .fields #[vl, vu, .none] := rfl
  refine codeAny_slot (s := X.sh h tk) slot_list_getitem ⟨_, hol, rfl⟩ entry_list_getitem (args_list_getitem _ _) ?_
  show wpAny _ _ (Builtin.List.listSubscript? (.ref sl) >>= _) _ _ _
  refine wpAny_bind ?_
  unfold Builtin.List.listSubscript?
  refine wpAny_bind (wpAny_specialOf hTs slice_no_index ?_)
  simp only [Option.isNone_none, if_true]
  refine wpAny_pure ?_
  show wpAny _ _ (typeOf (.ref sl) >>= _) _ _ _
  refine wpAny_bind (wpAny_typeOf hTs ?_)
  rw [if_neg (by decide)]
  rw [listSliceParts_eq]
  refine wpAny_bind (wpAny_bind (wpAny_field hos hds (x := .none) rfl (wpAny_bind (wpAny_listPart .none ?_))))
  rw [if_neg (show ¬ ((rawPart none == rawInt 0) = true) from Bool.false_ne_true)]
  refine wpAny_bind (wpAny_field hos hds (x := vl) rfl (wpAny_bind (wpAny_listPart pl ?_)))
  refine wpAny_bind (wpAny_field hos hds (x := vu) rfl (wpAny_bind (wpAny_listPart pu (wpAny_pure ?_))))
  refine wpAny_bind (m := Builtin.List.listItems (.ref l)) ?_
  unfold Builtin.List.listItems
  refine wpAny_bind (wpAny_seqItems hol hd (wpAny_pure ?_))
  refine wpAny_bind (wpAny_of_eq (sliceIndices_raw lo hi none _ (by simp)) ?_)
  refine wpAny_bind (wpAny_newObj_type (wpAny_pure ?_) (Nat.le_trans (slicePick_size_le ⟨xs⟩ lo hi none) (line_size hz)))
  exact pu_new (tk := tk) hg K rfl fun g' _ e => ⟨_, rfl, e⟩
theorem list_slice_from (X : Cx) (g : Gm) (d u : Nat) (l sl : Addr) (xs : List Value) (m : Nat) (a t : Nat) (hl : g l = some (lstO xs m)) (hs : g sl = some (slcO (.int (a : Nat) t) .none .none)) (hz : xs.length ≤ 100000) :
    Pu X g d u (.call (.builtin "list.__getitem__") ⟨[.ref l, .ref sl], []⟩) (fun g' r => ∃ c, r = .ok (.ret (.ref c)) ∧ g' c = some (lstO (xs.drop a) 0)) := by
  refine (list_slice_any X g d u l sl xs m _ _ (some a) none hl hs (.int _ _) .none hz).mono ?_
  rintro g' r _ ⟨c, h, e⟩
  rw [slicePick_from'] at e
  exact ⟨c, h, by simpa using e⟩
theorem list_slice_upto (X : Cx) (g : Gm) (d u : Nat) (l sl : Addr) (xs : List Value) (m : Nat) (b t : Nat) (hl : g l = some (lstO xs m)) (hs : g sl = some (slcO .none (.int (b : Nat) t) .none)) (hz : xs.length ≤ 100000) :
    Pu X g d u (.call (.builtin "list.__getitem__") ⟨[.ref l, .ref sl], []⟩) (fun g' r => ∃ c, r = .ok (.ret (.ref c)) ∧ g' c = some (lstO (xs.take b) 0)) := by
  refine (list_slice_any X g d u l sl xs m _ _ none (some b) hl hs .none (.int _ _) hz).mono ?_
  rintro g' r _ ⟨c, h, e⟩
  rw [slicePick_upto'] at e
  exact ⟨c, h, by simpa using e⟩
theorem list_len_cons (X : Cx) (g : Gm) (d u : Nat) (l : Addr) (x : Value) (xs : List Value) (m : Nat) (hl : g l = some (lstO (x :: xs) m)) (hz : xs.length ≤ 100000) :
    Pu X g d u (.call (.builtin "list.__len__") ⟨[.ref l], []⟩) (fun g' r => ∃ n tk, r = .ok (.ret (.int (Int.ofNat (Nat.succ n)) tk)) ∧ ¬ ((2 : Int) ^ 63 ≤ Int.ofNat (Nat.succ n))) := fun h tk hg R K => by
  have hol := hg _ _ hl
  refine codeAny_meets slot_list_len (Heap.IsList.typeIs ⟨_, hol, rfl, m, rfl⟩) entry_list_len (args_list_len _) (AutoListH.list___len___list_0 l ⟨x :: xs⟩ m) ⟨hol, ?_⟩
  exact K g h _ _ (Le.refl g) hg (fun _ _ q => q) (Nat.le_refl _) (fun _ _ => rfl) ⟨xs.length, _, rfl, by have : (Int.ofNat (Nat.succ xs.length)) = (xs.length : Int) + 1 := rfl; rw [this]; omega⟩
end Mine

/-! Seq3 -/
namespace Mine
open PySem PySem.W PySem.W.X PySem.Calls PyProof.Rows
theorem list_init_ok (X : Cx) (g : Gm) (d u : Nat) (a b : Addr) (ys : List Value) (n : Nat) (hb : g b = some (lstO ys n)) (hl : ys.length ≤ 100000) :
    PuL X g d u (.call (.builtin "list.__init__") ⟨[.ref a, .ref b], []⟩) a (lstO [] 0) (fun g' o' r => ∃ m', o' = lstO ys m' ∧ r = .ok (.ret .none)) := fun h tk hg ho hn R K => by
  have h2 := hg _ _ hb
  have ne : b ≠ a := fun e => by rw [e, hn] at hb; cases hb
  have hs : (⟨ys⟩ : Array Value).size ≤ sizeLine := line_size hl
  refine codeAny_slot (s := X.sh h tk) F.slot_list_init ⟨_, ho, rfl⟩ F.entry_list_init (F.args_list_init_2 _ _) (wpAny_list_init_seq (s := X.sh h tk) (R := R) (items := ⟨ys⟩) (n := n) a b (.inl rfl) ne ho h2 rfl rfl ?_ hs)
  have s1 : Heap.SameBut a h (h.update a (Obj.mapSeq (fun _ => (#[] : Array Value)))) := Heap.SameBut.update ..
  have s2 : Heap.SameBut a (h.update a (Obj.mapSeq (fun _ => (#[] : Array Value)))) ((h.update a (Obj.mapSeq (fun _ => (#[] : Array Value)))).update a (Obj.mapSeq (· ++ (⟨ys⟩ : Array Value)))) := Heap.SameBut.update ..
  have e1 := Heap.get?_update_self (Obj.mapSeq (fun _ => (#[] : Array Value))) ho rfl
  have e2 := Heap.get?_update_self (Obj.mapSeq (· ++ (⟨ys⟩ : Array Value))) e1 rfl
  obtain ⟨m', e3⟩ : ∃ m', Obj.mapSeq (· ++ (⟨ys⟩ : Array Value)) (Obj.mapSeq (fun _ => (#[] : Array Value)) (lstO [] 0)) = lstO ys m' := by
    refine ⟨if ys.isEmpty then 0 else 1, ?_⟩
    cases ys <;> simp [Obj.mapSeq, lstO]
  rw [e3] at e2
  refine K g _ tk _ _ (Le.refl g) (fun b x q => ?_) (fun b x ne q => (s2.2 b ne).trans ((s1.2 b ne).trans q)) e2 (Nat.le_of_eq (s1.1.symm.trans s2.1.symm)) (fun _ _ => rfl) ⟨m', rfl, rfl⟩
  have : b ≠ a := fun e => by rw [e, hn] at q; cases q
  exact (s2.2 b this).trans ((s1.2 b this).trans (hg b x q))
theorem list_pop_ok (X : Cx) (g : Gm) (d u : Nat) (a : Addr) (xs : List Value) (v : Value) (m : Nat) (hl : (xs ++ [v]).length ≤ 100000) :
    PuL X g d u (.call (.builtin "list.pop") ⟨[.ref a], []⟩) a (lstO (xs ++ [v]) m) (fun g' o' r => ∃ m', o' = lstO xs m' ∧ r = .ok (.ret v)) := fun h tk hg ho hn R K => by
  refine codeAny_meets F.slot_list_pop (Heap.IsList.typeIs ⟨_, ho, rfl, m, rfl⟩) F.entry_list_pop (F.args_list_pop_1 _) (MeetsSeq.list_pop_last a ⟨xs ++ [v]⟩ m v (by simp) (line_size hl)) ⟨ho, ?_⟩
  obtain ⟨m', e⟩ : ∃ m', Obj.mapSeq (fun x => x.eraseIdxIfInBounds ((⟨xs ++ [v]⟩ : Array Value).size - 1)) (lstO (xs ++ [v]) m) = lstO xs m' := by
    have e : (xs ++ [v]).eraseIdx xs.length = xs := by rw [List.eraseIdx_append_of_length_le (Nat.le_refl _)]; simp
    refine ⟨m + 1, ?_⟩
    simp [Obj.mapSeq, lstO, Array.eraseIdxIfInBounds, e]
  exact pul_done hg ho hn K _ e rfl ⟨_, rfl, rfl⟩
def isTrue : Value → Bool
  | .bool b => b
  | _ => false
def bvs (bs : List Bool) : List Value := bs.map Value.bool
theorem list_true_in_ok (X : Cx) (g : Gm) (d u : Nat) (a : Addr) (bs : List Bool) (m : Nat) (ha : g a = some (lstO (bvs bs) m)) :
    Pu X g d u (.call (.builtin "list.__contains__") ⟨[.ref a, .bool true], []⟩) (fun g' r => r = .ok (.ret (.bool (bs.any id)))) := fun h tk hg R K => by
  have hol := hg _ _ ha
  have he : ∀ y, y ∈ (⟨bvs bs⟩ : Array Value) → SeqAt.EqAt (Ar d u).in1 (X.sh h tk) y (.bool true) (isTrue y) := by
    intro y hy
    have : y ∈ bvs bs := by simpa using hy
    have zz_ := List.mem_map.mp this
    obtain ⟨b, _, rfl⟩ := zz_
    have := SeqAt.EqAt.bool_bool (A := (Ar d u).in1) (s := X.sh h tk) b true
    cases b <;> exact this
  refine codeAny_meets F.slot_list_contains (Heap.IsList.typeIs ⟨_, hol, rfl, m, rfl⟩) F.entry_list_contains (F.args_list_contains_2 _ _) (SeqAt.list_containsAt a ⟨bvs bs⟩ m none #[] (.bool true) isTrue) ⟨hol, he, ?_⟩
  have e : (⟨bvs bs⟩ : Array Value).any isTrue = bs.any id := by
    simp only [bvs, List.any_toArray, List.any_map]
    rfl
  rw [e]
  exact K g h tk _ (Le.refl g) hg (fun _ _ q => q) (Nat.le_refl _) (fun _ _ => rfl) rfl
end Mine

/-! Seq4 -/
namespace Mine
open PySem PySem.W PySem.W.X PySem.Calls PyProof.Rows
def rgO (x left : Int) : Obj := ⟨.type "range_iterator", none, .fields ⟨[.int x 0, .int left 0, .int 1 0]⟩, #[]⟩
theorem range_next (X : Cx) (g : Gm) (d u : Nat) (it : Addr) (x : Int) (n : Nat) :
    PuL X g d u (.call (.builtin "range_iterator.__next__") ⟨[.ref it], []⟩) it (rgO x (n + 1 : Nat)) (fun g' o' r => o' = rgO (x + 1) n ∧ ∃ tk, r = .ok (.ret (.int x tk))) := fun h tk hg ho hn R K => by
  refine codeAny_meets F.slot_range_iterator_next ⟨_, ho, rfl⟩ F.entry_range_iterator_next (F.args_range_iterator_next_1 _) (AutoRange.range_iterator___next___range_iterator_1 it x ((n + 1 : Nat) : Int) 1 (by omega)) ⟨ho, ?_⟩
  have s1 : Heap.SameBut it h (h.update it (Obj.mapFields fun x_1 => x_1.setIfInBounds 0 (rawInt (x + 1)))) := Heap.SameBut.update ..
  have s2 : Heap.SameBut it (h.update it (Obj.mapFields fun x_1 => x_1.setIfInBounds 0 (rawInt (x + 1)))) ((h.update it (Obj.mapFields fun x_1 => x_1.setIfInBounds 0 (rawInt (x + 1)))).update it (Obj.mapFields fun x => x.setIfInBounds 1 (rawInt (((n + 1 : Nat) : Int) - 1)))) := Heap.SameBut.update ..
  have e1 := Heap.get?_update_self (Obj.mapFields fun x_1 => x_1.setIfInBounds 0 (rawInt (x + 1))) ho rfl
  have e2 := Heap.get?_update_self (Obj.mapFields fun x => x.setIfInBounds 1 (rawInt (((n + 1 : Nat) : Int) - 1))) e1 rfl
  have e3 : Obj.mapFields (fun x => x.setIfInBounds 1 (rawInt (((n + 1 : Nat) : Int) - 1))) (Obj.mapFields (fun x_1 => x_1.setIfInBounds 0 (rawInt (x + 1))) (rgO x (n + 1 : Nat))) = rgO (x + 1) n := by
    rw [show ((n + 1 : Nat) : Int) - 1 = (n : Int) by omega]; rfl
  rw [e3] at e2
  refine K g _ _ _ _ (Le.refl g) (fun b x q => ?_) (fun b x ne q => (s2.2 b ne).trans ((s1.2 b ne).trans q)) e2 (Nat.le_of_eq (s1.1.symm.trans s2.1.symm)) (fun _ _ => rfl) ⟨rfl, _, rfl⟩
  have : b ≠ it := fun e => by rw [e, hn] at q; cases q
  exact (s2.2 b this).trans ((s1.2 b this).trans (hg b x q))
end Mine

/-! C2 -/
namespace Mine
open PySem PySem.W PySem.W.X
theorem has_base_ok (y : Wd) (W : Wo) (g0 : Gm) (d u : Nat) (j k tk : Nat) (hj : j < 7) (hk' : k < 7) (hK0 : KIn (tops y) g0) (hW : WoIs g0 W) (hd : d + 9 < recursionLimit) (hu : u + 60 < cLine) :
    Pu (cx y) g0 d u (.call (.ref 89) ⟨[.ref (W.I k), .str (W.N j) tk], []⟩) (fun g' r => r = .ok (.ret (.bool ((W.mro k).contains j)))) := by
  have hi := hW.info k hk'
  have zz_ := mro_cons W k
  obtain ⟨rest, hm⟩ := zz_
  have ml7 := hW.mroLt hk'
  have zz_ := hi.inv
  obtain ⟨dd, dn, ddd, tl, tv, bl, ml, _, _, _, _, _, _, _, _, _, _, _, _, _, _, _, _, _, _, _, names, bs, e1, e2, e3, e4, e5, e6, q, e7, b0, b1, e8⟩ := zz_
  rw [hm, List.map_cons] at e8
  refine pu_of fun F ρ tk R hk K => ?_
  run_tac walk
  run_tac walk [``next_item, ``next_end]
  · have w : (W.N k).cps.toList.beq (W.N j).cps.toList = true := Eq.trans (by kernel_rfl) way
    rw [hW.nmEq hk' hj] at w
    refine K _ _ _ _ _ (by assumption) ?_
    rw [hm]
    simp at w
    simp [w]
  · have w : (W.N k).cps.toList.beq (W.N j).cps.toList = false := Eq.trans (by kernel_rfl) way
    rw [hW.nmEq hk' hj] at w
    simp at w
    run_tac mkLoop [0, 1] [.idx 1, .ent 0 2]
    have H : ∀ (rem pre : List Nat) (g' : Gm) (i : Nat) (v : Value), i = pre.length → W.mro k = pre ++ rem → (∀ x ∈ pre, x ≠ j) → Le g0 g' → P g' i v := by
      intro rem
      induction rem with
      | nil =>
        intro pre g' i v hi hpre hne le' ρ' tk'
        have hK' := hK0.mono le'
        have hW' := hW.mono le'
        have f1 : g' ml = some (lstO ((W.mro k).map fun i => Value.ref (W.I i)) _) := le' _ _ (by rw [hm]; exact e8)
        have hx : ((W.mro k).map fun i => Value.ref (W.I i))[i]? = none := by simp [hpre, hi]
        run_tac walk [``next_item, ``next_end]
        refine K _ _ _ _ _ (le'.trans (by assumption)) ?_
        have : j ∉ W.mro k := by rw [hpre, List.append_nil]; exact fun m => hne j m rfl
        simp [this]
      | cons x rem ih => 
        intro pre g' i v hi hpre hne le' ρ' tk'
        have hK' := hK0.mono le'
        have hW' := hW.mono le'
        have x7 : x < 7 := ml7 x (by rw [hpre]; simp)
        have f1 : g' ml = some (lstO ((W.mro k).map fun i => Value.ref (W.I i)) _) := le' _ _ (by rw [hm]; exact e8)
        have hx : ((W.mro k).map fun i => Value.ref (W.I i))[i]? = some (Value.ref (W.I x)) := by simp [hpre, hi]
        have hix := hW'.info x x7
        have zz_ := hix.inv
        obtain ⟨dd, dn, ddd, tl, tv, bl, ml, _, _, _, _, _, _, _, _, _, _, _, _, _, _, _, _, _, _, _, names, bs, e1, e2, e3, e4, e5, e6, q, e7, b0, b1, e8⟩ := zz_
        run_tac walk [``next_item, ``next_end]
        · have w : (W.N x).cps.toList.beq (W.N j).cps.toList = true := Eq.trans (by kernel_rfl) way
          rw [hW.nmEq x7 hj] at w
          refine K _ _ _ _ _ (le'.trans (by assumption)) ?_
          rw [hpre]
          simp at w
          simp [w]
        · have w : (W.N x).cps.toList.beq (W.N j).cps.toList = false := Eq.trans (by kernel_rfl) way
          rw [hW.nmEq x7 hj] at w
          simp at w
          refine en_pack' hk [0, 1] _ (by kernel_rfl) rfl (fun ρ' => ih (pre ++ [x]) _ (i + 1) (.ref (W.I x)) (by simp [hi]) (by simp [hpre]) ?_ (le'.trans (by assumption)) ρ' _)
          intro z hz
          have zz_ := List.mem_append.mp hz
          rcases zz_ with hz | hz
          · exact hne z hz
          · simp at hz
            rw [hz]; exact w
    exact H rest [k] _ 1 _ rfl hm (by simpa using w) (by assumption)
theorem has_base_yes (y : Wd) (W : Wo) (g0 : Gm) (d u : Nat) (j k tk : Nat) (hj : j < 7) (hk' : k < 7) (hK0 : KIn (tops y) g0) (hW : WoIs g0 W) (hd : d + 9 < recursionLimit) (hu : u + 60 < cLine) (hc : (W.mro k).contains j = true) :
    Pu (cx y) g0 d u (.call (.ref 89) ⟨[.ref (W.I k), .str (W.N j) tk], []⟩) (fun g' r => r = .ok (.ret (.bool true))) := by
  have := has_base_ok y W g0 d u j k tk hj hk' hK0 hW hd hu
  rw [hc] at this
  exact this
theorem has_base_no (y : Wd) (W : Wo) (g0 : Gm) (d u : Nat) (j k tk : Nat) (hj : j < 7) (hk' : k < 7) (hK0 : KIn (tops y) g0) (hW : WoIs g0 W) (hd : d + 9 < recursionLimit) (hu : u + 60 < cLine) (hc : (W.mro k).contains j = false) :
    Pu (cx y) g0 d u (.call (.ref 89) ⟨[.ref (W.I k), .str (W.N j) tk], []⟩) (fun g' r => r = .ok (.ret (.bool false))) := by
  have := has_base_ok y W g0 d u j k tk hj hk' hK0 hW hd hu
  rw [hc] at this
  exact this
end Mine

/-! C3 -/
namespace Mine
open PySem PySem.W PySem.W.X
theorem mk0_ok (y : Wd) (W : Wo) (g0 : Gm) (d u : Nat) (k l m : Nat) (hk' : k < 7) (hK0 : KIn (tops y) g0) (hW : WoIs g0 W) (hd : d + 9 < recursionLimit) (hu : u + 60 < cLine)
   (hl : g0 l = some (lstO [] m)) :
    Pu (cx y) g0 d u (.call (.ref 366) ⟨[.ref (W.I k), .ref l], []⟩) (fun g' r => ∃ a d' tp h1 t1 h2 t2 n, r = .ok (.ret (.ref a)) ∧ g' a = some (ins 366 d') ∧ g' d' = some (dct [key h1 t1 "type" (.ref (W.I k)), key h2 t2 "args" (.ref tp)] n) ∧ g' tp = some (tupO [])) := by
  refine pu_of fun F ρ tk R hk K => ?_
  run_tac walk
  exact K _ _ _ _ _ hle ⟨_, _, _, _, _, _, _, _, rfl, by assumption, by assumption, by assumption⟩
theorem mk1_ok (y : Wd) (W : Wo) (g0 : Gm) (d u : Nat) (k l m b : Nat) (hk' : k < 7) (hK0 : KIn (tops y) g0) (hW : WoIs g0 W) (hd : d + 9 < recursionLimit) (hu : u + 60 < cLine)
   (hl : g0 l = some (lstO [.ref b] m)) :
    Pu (cx y) g0 d u (.call (.ref 366) ⟨[.ref (W.I k), .ref l], []⟩) (fun g' r => ∃ a d' tp h1 t1 h2 t2 n, r = .ok (.ret (.ref a)) ∧ g' a = some (ins 366 d') ∧ g' d' = some (dct [key h1 t1 "type" (.ref (W.I k)), key h2 t2 "args" (.ref tp)] n) ∧ g' tp = some (tupO [.ref b])) := by
  refine pu_of fun F ρ tk R hk K => ?_
  run_tac walk
  exact K _ _ _ _ _ hle ⟨_, _, _, _, _, _, _, _, rfl, by assumption, by assumption, by assumption⟩
theorem mk2_ok (y : Wd) (W : Wo) (g0 : Gm) (d u : Nat) (k l m b c : Nat) (hk' : k < 7) (hK0 : KIn (tops y) g0) (hW : WoIs g0 W) (hd : d + 9 < recursionLimit) (hu : u + 60 < cLine)
   (hl : g0 l = some (lstO [.ref b, .ref c] m)) :
    Pu (cx y) g0 d u (.call (.ref 366) ⟨[.ref (W.I k), .ref l], []⟩) (fun g' r => ∃ a d' tp h1 t1 h2 t2 n, r = .ok (.ret (.ref a)) ∧ g' a = some (ins 366 d') ∧ g' d' = some (dct [key h1 t1 "type" (.ref (W.I k)), key h2 t2 "args" (.ref tp)] n) ∧ g' tp = some (tupO [.ref b, .ref c])) := by
  refine pu_of fun F ρ tk R hk K => ?_
  run_tac walk
  exact K _ _ _ _ _ hle ⟨_, _, _, _, _, _, _, _, rfl, by assumption, by assumption, by assumption⟩
/-- seen from a class above -/
def PT.up (t : PT) (j : Nat) : PT := if t.hd = j then t else .leaf j
theorem WoIs.anc_lo {g : Gm} {W : Wo} (h : WoIs g W) : ∀ (n k : Nat), k < 7 → ∀ x ∈ W.anc n k, x = k ∨ x < 4
  | 0, k, hk, x, m => by
    simp only [Wo.anc, List.mem_singleton] at m
    exact .inl m
  | n + 1, k, hk, x, m => by
    unfold Wo.anc at m
    by_cases h0 : k = 0
    · rw [if_pos h0] at m
      simp only [List.mem_singleton] at m
      omega
    · rw [if_neg h0] at m
      have zz_ := List.mem_cons.mp m
      rcases zz_ with rfl | m
      · exact .inl rfl
      · have p : W.par k < 4 := by
          have := h.par1; have := h.par2; have := h.par3; have := h.par4; have := h.par5; have := h.par6
          have : k = 1 ∨ k = 2 ∨ k = 3 ∨ k = 4 ∨ k = 5 ∨ k = 6 := by omega
          rcases this with rfl | rfl | rfl | rfl | rfl | rfl <;> omega
        have zz_ := h.anc_lo n (W.par k) (by omega) x m
        rcases zz_ with e | e
        · right; omega
        · exact .inr e
theorem tvs_lo (W : Wo) {k : Nat} (h : k < 4) : tvs W k = [] := by
  have : k = 0 ∨ k = 1 ∨ k = 2 ∨ k = 3 := by omega
  rcases this with rfl | rfl | rfl | rfl <;> rfl
theorem map_lo (y : Wd) (W : Wo) (g0 : Gm) (d u : Nat) (t : PT) (j a : Nat) (hi : t.inst = true) (hm : j ∈ W.mro t.hd) (j4 : j < 4) (hK0 : KIn (tops y) g0) (hW : WoIs g0 W) (hd : d + 12 < recursionLimit) (hu : u + 80 < cLine)
   (ha : TyIs g0 W a t) :
    Pu (cx y) g0 d u (.call (.ref 629) ⟨[.ref a, .ref (W.I j)], []⟩) (fun g' r => ∃ b d' tp h1 t1 h2 t2 n, r = .ok (.ret (.ref b)) ∧ g' b = some (ins 366 d') ∧ g' d' = some (dct [key h1 t1 "type" (.ref (W.I j)), key h2 t2 "args" (.ref tp)] n) ∧ g' tp = some (tupO []) ∧ TyIs g' W b (.leaf j)) := by
  have zz_ := ha.inst_inv hi
  obtain ⟨_, _, _, _, _, _, _, _, f1, f2, f3, f4, h7⟩ := zz_
  have hj : j < 7 := hW.mroLt h7 j hm
  have zz_ := hW.ins h7
  obtain ⟨_, i1⟩ := zz_
  by_cases e : t.hd = j
  · have : t = .leaf j := by
      cases t with
      | leaf c => exact congrArg _ e
      | un c t => have := ha.un_inv.1; simp only [PT.hd] at e; omega
      | two => simp only [PT.hd] at e; omega
    subst this
    clear f1 f2 f3 f4
    have zz_ := ha.cls_inv j4
    obtain ⟨_, _, _, _, _, _, _, f1, f2, f3⟩ := zz_
    refine pu_of fun F ρ tk R hk K => ?_
    run_tac walk
    exact K _ _ _ _ _ hle ⟨_, _, _, _, _, _, _, _, rfl, by assumption, by assumption, by assumption, .cls j4 (by assumption) (by assumption) (by assumption)⟩
  · have zz_ := (hW.info j hj).inv
    obtain ⟨dd, dn, ddd, tl, tv, bl, ml, _, _, _, _, _, _, _, _, _, _, _, _, _, _, _, _, _, _, _, names, bs, e1, e2, e3, e4, e5, e6, q, e7, b0, b1, e8⟩ := zz_
    rw [tvs_lo W j4] at q
    obtain rfl := List.length_eq_zero_iff.mp q
    have ne : W.I t.hd ≠ W.I j := fun z => e (hW.inj _ _ h7 hj z)
    refine pu_of fun F ρ tk R hk K => ?_
    run_tac walk [``mk0_ok]
    exact K _ _ _ _ _ hle ⟨_, _, _, _, _, _, _, _, rfl, by assumption, by assumption, by assumption, .cls j4 (by assumption) (by assumption) (by assumption)⟩
end Mine

/-! L1 -/
namespace Mine
open PySem PySem.W PySem.W.X
/-! the law's own functions -/
def PT.ways : PT → Bool → List Bool
  | .leaf c, up => if c < 7 then [] else [up]
  | .un c t, up => t.ways (if c = 5 then !up else up)
  | .two t u, up => t.ways up ++ u.ways (!up)
def PT.wsz : PT → Nat
  | .leaf _ => 1
  | .un _ t => t.wsz
  | .two t u => t.wsz + u.wsz
theorem PT.ways_len : ∀ (t : PT) (up : Bool), (t.ways up).length ≤ t.wsz
  | .leaf c, up => by unfold PT.ways; split <;> simp [PT.wsz]
  | .un c t, up => PT.ways_len t _
  | .two t u, up => by
    have := PT.ways_len t up
    have := PT.ways_len u (!up)
    simp only [PT.ways, PT.wsz, List.length_append]; omega
theorem PT.wsz_dep : ∀ (t : PT) (n : Nat), t.dep ≤ n → t.wsz ≤ 2 ^ n
  | .leaf c, n, _ => Nat.one_le_two_pow
  | .un c t, n, h => by
    simp only [PT.dep] at h
    have := PT.wsz_dep t n (by omega)
    exact this
  | .two t u, 0, h => by simp [PT.dep] at h
  | .two t u, n + 1, h => by
    simp only [PT.dep] at h
    have := PT.wsz_dep t n (by omega)
    have := PT.wsz_dep u n (by omega)
    simp only [PT.wsz, Nat.pow_succ]; omega
open Lean Elab Tactic in
def walkL (specs : List Name := []) (fuel : Nat := 3000) : TacticM Unit :=
  walkTac specs (do evalTactic (← `(tactic| first | assumption | rfl | omega | (simp only [List.length_append, List.length_nil, List.length_cons, List.nil_append]; omega)))) fuel
theorem bvs_append (a b : List Bool) : bvs a ++ bvs b = bvs (a ++ b) := by simp [bvs]
def waysSpec (y : Wd) (n : Nat) : Prop := ∀ (t : PT) (g0 : Gm) (a : Addr) (up : Bool) (d u : Nat), t.tr → t.dep ≤ n → n ≤ 3 → KIn (tops y) g0 → d + (4 * n + 9) < recursionLimit → u + (40 * n + 50) < cLine → PTIs g0 a t →
    Pu (cx y) g0 d u (.call (.ref 1212) ⟨[.ref a, .bool up], []⟩) (fun g' r => ∃ b m, r = .ok (.ret (.ref b)) ∧ g' b = some (lstO (bvs (t.ways up)) m))
theorem ways_leaf (y : Wd) (c : Nat) (g0 : Gm) (a : Addr) (up : Bool) (d u : Nat) (ok : (PT.leaf c).tr) (hK0 : KIn (tops y) g0) (hd : d + 9 < recursionLimit) (hu : u + 50 < cLine) (h : PTIs g0 a (.leaf c)) :
    Pu (cx y) g0 d u (.call (.ref 1212) ⟨[.ref a, .bool up], []⟩) (fun g' r => ∃ b m, r = .ok (.ret (.ref b)) ∧ g' b = some (lstO (bvs ((PT.leaf c).ways up)) m)) := by
  cases h with
  | @leaf _ c k h =>
  have hc : c = 0 ∨ c = 1 ∨ c = 2 ∨ c = 3 ∨ c = 7 ∨ c = 8 := by simp only [PT.tr] at ok; omega
  refine pu_of fun F ρ0 tk R hk K => ?_
  rcases hc with rfl | rfl | rfl | rfl | rfl | rfl
  all_goals
    run_tac walkL
    all_goals exact K _ _ _ _ _ hle ⟨_, _, rfl, by assumption⟩
theorem ways_ok (y : Wd) : ∀ n, waysSpec y n := by
  intro n
  induction n with
  | zero =>
    intro t g0 a up d u ok dp n3 hK hd hu h
    cases t with
    | leaf c => exact ways_leaf y c g0 a up d u ok hK hd hu h
    | un => exact absurd dp (by simp [PT.dep])
    | two => exact absurd dp (by simp [PT.dep])
  | succ n ih =>
    intro t g0 a up d u ok dp n3 hK0 hd0 hu0 h
    have hd : d + 13 < recursionLimit := by omega
    have hu : u + 90 < cLine := by omega
    unfold waysSpec at ih
    have n3' : n ≤ 3 := by omega
    cases t with
    | leaf c => exact ways_leaf y c g0 a up d u ok hK0 (by omega) (by omega) h
    | un c t =>
      cases h with
      | un h ht =>
      simp only [PT.dep] at dp
      obtain ⟨oc, ot⟩ := ok
      have dp' : t.dep ≤ n := by omega
      rcases oc with rfl | rfl
      · refine pu_of fun F ρ0 tk R hk K => ?_
        run_tac walkL
        all_goals exact K _ _ _ _ _ hle ⟨_, _, rfl, by assumption⟩
      · cases up
        all_goals
          refine pu_of fun F ρ0 tk R hk K => ?_
          run_tac walkL
          all_goals exact K _ _ _ _ _ hle ⟨_, _, rfl, by assumption⟩
    | two t s =>
      cases h with
      | two h ht hs =>
      simp only [PT.dep] at dp
      obtain ⟨ot, os⟩ := ok
      have dp' : t.dep ≤ n := by omega
      have dps : s.dep ≤ n := by omega
      have l1 : ∀ up, (bvs (t.ways up)).length ≤ 8 := fun up => by
        have := PT.ways_len t up
        have := PT.wsz_dep t 3 (by omega)
        rw [bvs, List.length_map]; omega
      have l2 : ∀ up, (bvs (s.ways up)).length ≤ 8 := fun up => by
        have := PT.ways_len s up
        have := PT.wsz_dep s 3 (by omega)
        rw [bvs, List.length_map]; omega
      have l1t := l1 true
      have l1f := l1 false
      have l2t := l2 true
      have l2f := l2 false
      cases up
      all_goals
        refine pu_of fun F ρ0 tk R hk K => ?_
        run_tac walkL [``list_add_ok]
        all_goals exact K _ _ _ _ _ hle ⟨_, _, rfl, by rw [PT.ways, ← bvs_append]; assumption⟩
/-! put -/
def PT.put : PT → PT → PT
  | .leaf c, one => if c < 7 then .leaf c else one
  | .un c t, one => .un c (t.put one)
  | .two t u, one => .two (t.put one) (u.put one)
def putSpec (y : Wd) (n : Nat) : Prop := ∀ (t one : PT) (g0 : Gm) (a b : Addr) (d u : Nat), t.tr → t.dep ≤ n → n ≤ 3 → KIn (tops y) g0 → d + (4 * n + 9) < recursionLimit → u + (40 * n + 50) < cLine → PTIs g0 a t → PTIs g0 b one →
    Pu (cx y) g0 d u (.call (.ref 1217) ⟨[.ref a, .ref b], []⟩) (fun g' r => ∃ c, r = .ok (.ret (.ref c)) ∧ PTIs g' c (t.put one))
theorem put_leaf (y : Wd) (c : Nat) (one : PT) (g0 : Gm) (a b : Addr) (d u : Nat) (ok : (PT.leaf c).tr) (hK0 : KIn (tops y) g0) (hd : d + 9 < recursionLimit) (hu : u + 50 < cLine) (h : PTIs g0 a (.leaf c)) (hb : PTIs g0 b one) :
    Pu (cx y) g0 d u (.call (.ref 1217) ⟨[.ref a, .ref b], []⟩) (fun g' r => ∃ e, r = .ok (.ret (.ref e)) ∧ PTIs g' e ((PT.leaf c).put one)) := by
  cases h with
  | @leaf _ c k h =>
  have hc : c = 0 ∨ c = 1 ∨ c = 2 ∨ c = 3 ∨ c = 7 ∨ c = 8 := by simp only [PT.tr] at ok; omega
  refine pu_of fun F ρ0 tk R hk K => ?_
  rcases hc with rfl | rfl | rfl | rfl | rfl | rfl
  all_goals
    run_tac walkL
    all_goals exact K _ _ _ _ _ hle ⟨_, rfl, by first | assumption | exact .leaf (by assumption)⟩
theorem put_ok (y : Wd) : ∀ n, putSpec y n := by
  intro n
  induction n with
  | zero =>
    intro t one g0 a b d u ok dp n3 hK hd hu h hb
    cases t with
    | leaf c => exact put_leaf y c one g0 a b d u ok hK hd hu h hb
    | un => exact absurd dp (by simp [PT.dep])
    | two => exact absurd dp (by simp [PT.dep])
  | succ n ih =>
    intro t one g0 a b d u ok dp n3 hK0 hd0 hu0 h hb
    have hd : d + 13 < recursionLimit := by omega
    have hu : u + 90 < cLine := by omega
    unfold putSpec at ih
    have n3' : n ≤ 3 := by omega
    cases t with
    | leaf c => exact put_leaf y c one g0 a b d u ok hK0 (by omega) (by omega) h hb
    | un c t =>
      cases h with
      | un h ht =>
      simp only [PT.dep] at dp
      obtain ⟨oc, ot⟩ := ok
      have dp' : t.dep ≤ n := by omega
      rcases oc with rfl | rfl
      all_goals
        refine pu_of fun F ρ0 tk R hk K => ?_
        run_tac walkL
        all_goals exact K _ _ _ _ _ hle ⟨_, rfl, .un (by assumption) (by assumption)⟩
    | two t s =>
      cases h with
      | two h ht hs =>
      simp only [PT.dep] at dp
      obtain ⟨ot, os⟩ := ok
      have dp' : t.dep ≤ n := by omega
      have dps : s.dep ≤ n := by omega
      refine pu_of fun F ρ0 tk R hk K => ?_
      run_tac walkL
      all_goals exact K _ _ _ _ _ hle ⟨_, rfl, .two (by assumption) (by assumption) (by assumption)⟩
end Mine

/-! C4 -/
namespace Mine
open PySem PySem.W PySem.W.X
def PT.sub (W : Wo) : PT → PT → Bool
  | .leaf a, .leaf b => a == 9 || (W.mro a).contains b
  | .leaf a, .un _ _ => a == 9
  | .leaf a, .two _ _ => a == 9
  | .un _ _, .leaf b => b == 0
  | .un c t, .un k u => c == k && (if c = 4 then t.sub W u else u.sub W t)
  | .un _ _, .two _ _ => false
  | .two _ _, .leaf b => b == 0
  | .two _ _, .un _ _ => false
  | .two t u, .two t' u' => t.sub W t' && u'.sub W u
termination_by a b => sizeOf a + sizeOf b
theorem PT.sub_refl (W : Wo) : ∀ t : PT, t.sub W t = true
  | .leaf a => by
    have zz_ := mro_cons W a
    obtain ⟨r, e⟩ := zz_
    simp [PT.sub, e]
  | .un c t => by simp [PT.sub, PT.sub_refl W t]
  | .two t u => by simp [PT.sub, PT.sub_refl W t, PT.sub_refl W u]
theorem WoIs.tail {g : Gm} {W : Wo} (h : WoIs g W) : W.mro 4 = [4, 0] ∧ W.mro 5 = [5, 0] ∧ W.mro 6 = [6, 0] := by
  simp [Wo.mro, Wo.anc, h.par4, h.par5, h.par6]
/-- a truth value that is to stay closed -/
def Says (bl b : Bool) : Prop := bl = b
def usubSpec (y : Wd) (W : Wo) (n : Nat) : Prop := ∀ (l r : PT) (g : Gm) (d u : Nat) (a b : Addr), l.ty → r.ty → l.dep ≤ n → r.dep ≤ n → KIn (tops y) g → WoIs g W → d + (8 * n + 30) < recursionLimit → u + (60 * n + 200) < cLine → TyIs g W a l → TyIs g W b r →
    Pu (cx y) g d u (.call (.ref 682) ⟨[.ref a, .ref b, .bool false], []⟩) (fun g' res => ∃ bl, res = .ok (.ret (.bool bl)) ∧ Says bl (l.sub W r))
def subSpec (y : Wd) (W : Wo) (n : Nat) : Prop := ∀ (l r : PT) (g : Gm) (d u : Nat) (a b : Addr), l.ty → r.ty → l.dep ≤ n → r.dep ≤ n → KIn (tops y) g → WoIs g W → d + (8 * n + 32) < recursionLimit → u + (60 * n + 210) < cLine → TyIs g W a l → TyIs g W b r →
    Pu (cx y) g d u (.call (.ref 658) ⟨[.ref a, .ref b, .bool false], []⟩) (fun g' res => ∃ bl, res = .ok (.ret (.bool bl)) ∧ Says bl (l.sub W r))
theorem PT.sub_nev (W : Wo) (r : PT) : (PT.leaf 9).sub W r = true := by
  cases r <;> simp [PT.sub]
theorem sub_nev_ok (y : Wd) (W : Wo) (r : PT) (g0 : Gm) (d u : Nat) (a b : Addr) (p : Bool) (hr : r.ty) (hK0 : KIn (tops y) g0) (hW : WoIs g0 W) (hd : d + 30 < recursionLimit) (hu : u + 200 < cLine) (ha : TyIs g0 W a (.leaf 9)) (hb : TyIs g0 W b r) :
    Pu (cx y) g0 d u (.call (.ref 682) ⟨[.ref a, .ref b, .bool p], []⟩) (fun g' res => ∃ bl, res = .ok (.ret (.bool bl)) ∧ Says bl ((PT.leaf 9).sub W r)) := by
  rw [PT.sub_nev]
  have zz_ := ha.nev_inv
  obtain ⟨_, _, _, _, _, f1, f2⟩ := zz_
  have zz_ := hb.face hr
  rcases zz_ with ⟨rfl, _, _, _, _, _, f7, f8⟩ | ⟨q1, _, _, _, _, _, _, _, _, f7, f8, f9⟩
  · cases p
    all_goals
      refine pu_of fun F ρ tk R hk K => ?_
      run_tac walk [``ueq_nev, ``ueq_ins, ``ieq_nev]
      all_goals exact K _ _ _ _ _ hle ⟨_, rfl, rfl⟩
  · cases p
    all_goals
      refine pu_of fun F ρ tk R hk K => ?_
      run_tac walk [``ueq_nev, ``ueq_ins, ``ieq_nev]
      all_goals exact K _ _ _ _ _ hle ⟨_, rfl, rfl⟩
theorem sub_to_nev_ok (y : Wd) (W : Wo) (l : PT) (g0 : Gm) (d u : Nat) (a b : Addr) (p : Bool) (hi : l.inst = true) (hK0 : KIn (tops y) g0) (hW : WoIs g0 W) (hd : d + 30 < recursionLimit) (hu : u + 200 < cLine) (ha : TyIs g0 W a l) (hb : TyIs g0 W b (.leaf 9)) :
    Pu (cx y) g0 d u (.call (.ref 682) ⟨[.ref a, .ref b, .bool p], []⟩) (fun g' res => ∃ bl, res = .ok (.ret (.bool bl)) ∧ Says bl false) := by
  have zz_ := hb.nev_inv
  obtain ⟨_, _, _, _, _, f1, f2⟩ := zz_
  have zz_ := ha.inst_inv hi
  obtain ⟨_, _, _, _, _, _, _, _, f3, f4, f5, f6, _⟩ := zz_
  cases p
  all_goals
    refine pu_of fun F ρ tk R hk K => ?_
    run_tac walk [``ueq_nev, ``ueq_ins, ``ieq_nev]
    all_goals exact K _ _ _ _ _ hle ⟨_, rfl, rfl⟩
theorem PT.inst_ty {t : PT} (h : t.ty) (hi : t.inst = true) : (∃ k, k < 4 ∧ t = .leaf k) ∨ (∃ c s, (c = 4 ∨ c = 5) ∧ s.ty ∧ t = .un c s) ∨ ∃ s v, s.ty ∧ v.ty ∧ t = .two s v := by
  cases t with
  | leaf c => exact .inl ⟨c, by simpa [PT.inst] using hi, rfl⟩
  | un c s => exact .inr (.inl ⟨c, s, h.1, h.2, rfl⟩)
  | two s v => exact .inr (.inr ⟨s, v, h.1, h.2, rfl⟩)
theorem sub_hd {g : Gm} {W : Wo} (hW : WoIs g W) {l r : PT} (tl : l.ty) (tr : r.ty) (hl : l.inst = true) (hr : r.inst = true) (h : l.hd ≠ r.hd ∨ l.hd < 4) : l.sub W r = (W.mro l.hd).contains r.hd := by
  have zz_ := hW.tail
  obtain ⟨m4, m5, m6⟩ := zz_
  have lo : ∀ k, k < 4 → ∀ x ∈ W.mro k, x < 4 := fun k hk x hx => by
    have zz_ := hW.anc_lo 7 k (by omega) x hx
    rcases zz_ with e | e <;> omega
  rcases PT.inst_ty tl hl with ⟨k, hk, rfl⟩ | ⟨c, s, hc, ts, rfl⟩ | ⟨s, v, ts, tv, rfl⟩ <;>
  rcases PT.inst_ty tr hr with ⟨k', hk', rfl⟩ | ⟨c', s', hc', ts', rfl⟩ | ⟨s', v', ts', tv', rfl⟩ <;>
  simp only [PT.sub, PT.hd] at h ⊢
  · have : (k == 9) = false := by simp; omega
    rw [this, Bool.false_or]
  · have : (k == 9) = false := by simp; omega
    rw [this]
    symm
    simp only [List.contains_eq_mem, decide_eq_false_iff_not]
    intro m; have := lo k hk _ m; omega
  · have : (k == 9) = false := by simp; omega
    rw [this]
    symm
    simp only [List.contains_eq_mem, decide_eq_false_iff_not]
    intro m; have := lo k hk _ m; omega
  · rcases hc with rfl | rfl
    · rw [m4]; have : (k' == 4) = false := by simp; omega
      rw [List.contains_cons, this, List.contains_cons, List.contains_nil, Bool.or_false, Bool.false_or]
    · rw [m5]; have : (k' == 5) = false := by simp; omega
      rw [List.contains_cons, this, List.contains_cons, List.contains_nil, Bool.or_false, Bool.false_or]
  · have : (c == c') = false := by simp; omega
    rw [this, Bool.false_and]
    rcases hc with rfl | rfl <;> rcases hc' with rfl | rfl <;> simp_all
  · rcases hc with rfl | rfl <;> simp [m4, m5]
  · rw [m6]; have : (k' == 6) = false := by simp; omega
    rw [List.contains_cons, this, List.contains_cons, List.contains_nil, Bool.or_false, Bool.false_or]
  · rcases hc' with rfl | rfl <;> simp [m6]
  · omega
theorem ieq_ne (y : Wd) (W : Wo) (l r : PT) (hl : l.inst = true) (hr : r.inst = true) (ne : l.hd ≠ r.hd) (g : Gm) (d u : Nat) (a b : Addr) (hK : KIn (tops y) g) (hW : WoIs g W) (hd : d + 9 < recursionLimit) (hu : u + 60 < cLine) (ha : TyIs g W a l) (hb : TyIs g W b r) :
    Pu (cx y) g d u (.call (.ref 356) ⟨[.ref a, .ref b], []⟩) (fun g' res => res = .ok (.ret (.bool false))) := by
  have zz_ := hW.ins (ha.hd7 hl)
  obtain ⟨_, i1⟩ := zz_
  have zz_ := hW.ins (hb.hd7 hr)
  obtain ⟨_, i2⟩ := zz_
  have ne' : W.I l.hd ≠ W.I r.hd := fun e => ne (hW.inj _ _ (ha.hd7 hl) (hb.hd7 hr) e)
  have zz_ := ha.inst_inv hl
  obtain ⟨_, _, _, _, _, _, _, _, f1, f2, f3, _⟩ := zz_
  have zz_ := hb.inst_inv hr
  obtain ⟨_, _, _, _, _, _, _, _, f4, f5, f6, _⟩ := zz_
  refine pu_of fun F ρ tk R hk K => ?_
  run_tac walk
  all_goals exact K _ _ _ _ _ hle rfl
theorem sub_apart_ok (y : Wd) (W : Wo) (l r : PT) (g0 : Gm) (d u : Nat) (a b : Addr) (p : Bool) (tl : l.ty) (tr : r.ty) (hl : l.inst = true) (hr : r.inst = true) (ne : l.hd ≠ r.hd) (hK0 : KIn (tops y) g0) (hW : WoIs g0 W) (hd : d + 30 < recursionLimit) (hu : u + 200 < cLine) (ha : TyIs g0 W a l) (hb : TyIs g0 W b r) :
    Pu (cx y) g0 d u (.call (.ref 682) ⟨[.ref a, .ref b, .bool p], []⟩) (fun g' res => ∃ bl, res = .ok (.ret (.bool bl)) ∧ Says bl (l.sub W r)) := by
  rw [sub_hd hW tl tr hl hr (.inl ne)]
  have l7 := ha.hd7 hl
  have r7 := hb.hd7 hr
  have zz_ := ha.inst_inv hl
  obtain ⟨_, _, _, _, _, _, _, _, f3, f4, f5, f6, _⟩ := zz_
  have zz_ := (hW.info _ r7).inv
  obtain ⟨dd, dn, ddd, tl, tv, bl, ml, _, _, _, _, _, _, _, _, _, _, _, _, _, _, _, _, _, _, _, names, bs, e1, e2, e3, e4, e5, e6, q, e7, b0, b1, e8⟩ := zz_
  have zz_ := (hW.info _ l7).inv
  obtain ⟨dd', dn', ddd', tl', tv', bl', ml', _, _, _, _, _, _, _, _, _, _, _, _, _, _, _, _, _, _, _, names', bs', e1', e2', e3', e4', e5', e6', q', e7', b0', b1', e8'⟩ := zz_
  cases hc : (W.mro l.hd).contains r.hd with
  | false =>
    have zz_ := hb.inst_inv hr
    obtain ⟨_, _, _, _, _, _, _, _, f7, f8, f9, f10, _⟩ := zz_
    cases p
    all_goals
      refine pu_of fun F ρ tk R hk K => ?_
      run_tac walk [``ieq_ne, ``has_base_yes, ``has_base_no]
      all_goals exact K _ _ _ _ _ hle ⟨_, rfl, rfl⟩
  | true =>
    have hm : r.hd ∈ W.mro l.hd := by simpa using hc
    have r4 : r.hd < 4 := (hW.anc_lo 7 _ l7 _ hm).resolve_left (fun z => ne z.symm)
    have : r = .leaf r.hd := by
      cases r with
      | leaf c => rfl
      | un c t => have := hb.un_inv.1; simp only [PT.hd] at r4; omega
      | two => simp only [PT.hd] at r4; omega
    generalize r.hd = k at *
    subst this
    rw [tvs_lo W r4] at e5 q
    have zz_ := hb.cls_inv r4
    obtain ⟨_, _, _, _, _, _, _, f7, f8, f9⟩ := zz_
    cases p
    all_goals
      refine pu_of fun F ρ tk R hk K => ?_
      run_tac walk [``ieq_ne, ``has_base_yes, ``has_base_no, ``map_lo]
      all_goals exact K _ _ _ _ _ hle ⟨_, rfl, rfl⟩
end Mine

/-! C5 -/
namespace Mine
open PySem PySem.W PySem.W.X
theorem Says.yes {bl b : Bool} (s : Says bl b) (w : (!bl) = false) : Says true b := by
  unfold Says at *; subst s; simpa using w.symm
theorem Says.no {bl b : Bool} (s : Says bl b) (w : (!bl) = true) : Says false b := by
  unfold Says at *; subst s; simpa using w.symm
theorem Says.and {bl bl' b b' : Bool} (s : Says bl b) (s' : Says bl' b') (w : (!bl) = false) (w' : (!bl') = false) : Says true (b && b') := by
  unfold Says at *; subst s; subst s'; simp at w w'; simp [w, w']
theorem Says.andl {bl b b' : Bool} (s : Says bl b) (w : (!bl) = true) : Says false (b && b') := by
  unfold Says at *; subst s; simp at w; simp [w]
theorem Says.andr {bl b b' : Bool} (s : Says bl b) (w : (!bl) = true) : Says false (b' && b) := by
  unfold Says at *; subst s; simp at w; simp [w]
theorem sub_nev {g : Gm} {W : Wo} (hW : WoIs g W) {l : PT} (tl : l.ty) (hl : l.inst = true) : l.sub W (.leaf 9) = false := by
  have zz_ := PT.inst_ty tl hl
  rcases zz_ with ⟨k, hk, rfl⟩ | ⟨c, s, hc, ts, rfl⟩ | ⟨s, v, ts, tv, rfl⟩
  · simp only [PT.sub]
    have : (k == 9) = false := by simp; omega
    rw [this]
    simp only [Bool.false_or, List.contains_eq_mem, decide_eq_false_iff_not]
    intro m
    have := hW.mroLt (k := k) (by omega) 9 m
    omega
  · simp [PT.sub]
  · simp [PT.sub]
theorem sub_leaf_ok (y : Wd) (W : Wo) (j : Nat) (g0 : Gm) (d u : Nat) (a b : Addr) (p : Bool) (j4 : j < 4) (hK0 : KIn (tops y) g0) (hW : WoIs g0 W) (hd : d + 30 < recursionLimit) (hu : u + 200 < cLine) (ha : TyIs g0 W a (.leaf j)) (hb : TyIs g0 W b (.leaf j)) :
    Pu (cx y) g0 d u (.call (.ref 682) ⟨[.ref a, .ref b, .bool p], []⟩) (fun g' res => ∃ bl, res = .ok (.ret (.bool bl)) ∧ Says bl ((PT.leaf j).sub W (.leaf j))) := by
  rw [PT.sub_refl]
  have hm : j ∈ W.mro j := by obtain ⟨r, e⟩ := mro_cons W j; rw [e]; exact List.mem_cons_self
  have hc : (W.mro j).contains j = true := by simpa using hm
  have j7 : j < 7 := by omega
  have hi : (PT.leaf j).inst = true := by simpa [PT.inst] using j4
  have zz_ := ha.cls_inv j4
  obtain ⟨_, _, _, _, _, _, _, f7, f8, f9⟩ := zz_
  have zz_ := hb.cls_inv j4
  obtain ⟨_, _, _, _, _, _, _, f4, f5, f6⟩ := zz_
  have zz_ := (hW.info _ j7).inv
  obtain ⟨dd, dn, ddd, tl, tv, bl, ml, _, _, _, _, _, _, _, _, _, _, _, _, _, _, _, _, _, _, _, names, bs, e1, e2, e3, e4, e5, e6, q, e7, b0, b1, e8⟩ := zz_
  rw [tvs_lo W j4] at e5 q
  cases p
  all_goals
    refine pu_of fun F ρ tk R hk K => ?_
    run_tac walk [``ieq_leaf, ``has_base_yes, ``map_lo]
    all_goals exact K _ _ _ _ _ hle ⟨_, rfl, rfl⟩
theorem sub_un_ok (y : Wd) (W : Wo) (n : Nat) (ih : subSpec y W n) (c : Nat) (t t' : PT) (g0 : Gm) (d u : Nat) (a b : Addr) (tl : (PT.un c t).ty) (tr : (PT.un c t').ty) (dl : t.dep ≤ n) (dr : t'.dep ≤ n) (hK0 : KIn (tops y) g0) (hW : WoIs g0 W) (hd0 : d + (8 * (n + 1) + 30) < recursionLimit) (hu0 : u + (60 * (n + 1) + 200) < cLine) (ha : TyIs g0 W a (.un c t)) (hb : TyIs g0 W b (.un c t')) :
    Pu (cx y) g0 d u (.call (.ref 682) ⟨[.ref a, .ref b, .bool false], []⟩) (fun g' res => ∃ bl, res = .ok (.ret (.bool bl)) ∧ Says bl ((PT.un c t).sub W (.un c t'))) := by
  unfold subSpec at ih
  have hd : d + 38 < recursionLimit := by omega
  have hu : u + 260 < cLine := by omega
  have hi : (PT.un c t).inst = true := rfl
  have hi' : (PT.un c t').inst = true := rfl
  have hdl : (PT.un c t).dep ≤ n + 1 := by simp only [PT.dep]; omega
  have tt := tl.2
  have tt' := tr.2
  have hc : (W.mro c).contains c = true := by obtain ⟨r, e⟩ := mro_cons W c; rw [e]; simp
  have zz_ := ha.un_inv
  obtain ⟨_, _, _, x, _, _, _, _, _, f1, f2, f3, h0⟩ := zz_
  have zz_ := hb.un_inv
  obtain ⟨_, _, _, x', _, _, _, _, _, f4, f5, f6, h1⟩ := zz_
  have vr : (PT.un c t).sub W (.un c t') = (if c = 4 then t.sub W t' else t'.sub W t) := by simp [PT.sub]
  have zz_ := hW.rise
  obtain ⟨_, v⟩ := zz_
  have zz_ := hW.fall
  obtain ⟨_, v'⟩ := zz_
  cases v with | mk v1 v2 v3 =>
  cases v' with | mk v1' v2' v3' =>
  have zz_ := tl.1
  rcases zz_ with rfl | rfl
  · rw [if_pos rfl] at vr
    have zz_ := (hW.info 4 (by omega)).inv
    obtain ⟨dd, dn, ddd, tl, tv, bl, ml, _, _, _, _, _, _, _, _, _, _, _, _, _, _, _, _, _, _, _, names, bs, e1, e2, e3, e4, e5, e6, q, e7, b0, b1, e8⟩ := zz_
    simp only [tvs] at e5
    · refine pu_of fun F ρ tk R hk K => ?_
      run_tac walk [``has_base_yes]
      all_goals refine K _ _ _ _ _ hle ⟨_, rfl, ?_⟩
      all_goals first
        | (have e : PT.un 4 t = PT.un 4 t' := ‹EqOr _ (PT.un 4 t) (PT.un 4 t')› ‹_›
           rw [e, PT.sub_refl]; rfl)
        | (rw [vr]; exact Says.yes ‹_› ‹_›)
        | (rw [vr]; exact Says.no ‹_› ‹_›)
  · rw [if_neg (by decide)] at vr
    have zz_ := (hW.info 5 (by omega)).inv
    obtain ⟨dd, dn, ddd, tl, tv, bl, ml, _, _, _, _, _, _, _, _, _, _, _, _, _, _, _, _, _, _, _, names, bs, e1, e2, e3, e4, e5, e6, q, e7, b0, b1, e8⟩ := zz_
    simp only [tvs] at e5
    · refine pu_of fun F ρ tk R hk K => ?_
      run_tac walk [``has_base_yes]
      all_goals refine K _ _ _ _ _ hle ⟨_, rfl, ?_⟩
      all_goals first
        | (have e : PT.un 5 t = PT.un 5 t' := ‹EqOr _ (PT.un 5 t) (PT.un 5 t')› ‹_›
           rw [e, PT.sub_refl]; rfl)
        | (rw [vr]; exact Says.yes ‹_› ‹_›)
        | (rw [vr]; exact Says.no ‹_› ‹_›)
theorem sub_two_ok (y : Wd) (W : Wo) (n : Nat) (ih : subSpec y W n) (t v t' v' : PT) (g0 : Gm) (d u : Nat) (a b : Addr) (tl : (PT.two t v).ty) (tr : (PT.two t' v').ty) (dl : t.dep ≤ n) (dr : t'.dep ≤ n) (dl' : v.dep ≤ n) (dr' : v'.dep ≤ n) (hK0 : KIn (tops y) g0) (hW : WoIs g0 W) (hd0 : d + (8 * (n + 1) + 30) < recursionLimit) (hu0 : u + (60 * (n + 1) + 200) < cLine) (ha : TyIs g0 W a (.two t v)) (hb : TyIs g0 W b (.two t' v')) :
    Pu (cx y) g0 d u (.call (.ref 682) ⟨[.ref a, .ref b, .bool false], []⟩) (fun g' res => ∃ bl, res = .ok (.ret (.bool bl)) ∧ Says bl ((PT.two t v).sub W (.two t' v'))) := by
  unfold subSpec at ih
  have hd : d + 38 < recursionLimit := by omega
  have hu : u + 260 < cLine := by omega
  have hi : (PT.two t v).inst = true := rfl
  have hi' : (PT.two t' v').inst = true := rfl
  have hdl : (PT.two t v).dep ≤ n + 1 := by simp only [PT.dep]; omega
  have tt := tl.1
  have tt' := tr.1
  have tv := tl.2
  have tv' := tr.2
  have hc : (W.mro 6).contains 6 = true := by obtain ⟨r, e⟩ := mro_cons W 6; rw [e]; simp
  have zz_ := ha.two_inv
  obtain ⟨_, _, x, z, _, _, _, _, _, f1, f2, f3, h0, h2⟩ := zz_
  have zz_ := hb.two_inv
  obtain ⟨_, _, x', z', _, _, _, _, _, f4, f5, f6, h1, h3⟩ := zz_
  have vr : (PT.two t v).sub W (.two t' v') = (t.sub W t' && v'.sub W v) := by simp [PT.sub]
  have zz_ := hW.rise
  obtain ⟨_, w⟩ := zz_
  have zz_ := hW.fall
  obtain ⟨_, w'⟩ := zz_
  cases w with | mk v1 v2 v3 =>
  cases w' with | mk v1' v2' v3' =>
  have zz_ := (hW.info 6 (by omega)).inv
  obtain ⟨dd, dn, ddd, tl, tv, bl, ml, _, _, _, _, _, _, _, _, _, _, _, _, _, _, _, _, _, _, _, names, bs, e1, e2, e3, e4, e5, e6, q, e7, b0, b1, e8⟩ := zz_
  simp only [tvs] at e5
  · refine pu_of fun F ρ tk R hk K => ?_
    run_tac walk [``has_base_yes]
    all_goals refine K _ _ _ _ _ hle ⟨_, rfl, ?_⟩
    all_goals first
      | (have e : PT.two t v = PT.two t' v' := ‹EqOr _ (PT.two t v) (PT.two t' v')› ‹_›
         rw [e, PT.sub_refl]; rfl)
      | (rw [vr]; exact Says.and ‹Says _ (t.sub W t')› ‹Says _ (v'.sub W v)› (by assumption) (by assumption))
      | (rw [vr]; exact Says.andl ‹Says _ (t.sub W t')› (by assumption))
      | (rw [vr]; exact Says.andr ‹Says _ (v'.sub W v)› (by assumption))
theorem usub_zero (y : Wd) (W : Wo) : usubSpec y W 0 := by
  intro l r g d u a b tl tr dl dr hK hW hd0 hu0 ha hb
  have zz_ := PT.ty_cases tl
  rcases zz_ with rfl | hl
  · exact sub_nev_ok y W r g d u a b false tr hK hW (by omega) (by omega) ha hb
  have zz_ := PT.ty_cases tr
  rcases zz_ with rfl | hr
  · rw [show l.sub W (.leaf 9) = false from sub_nev hW tl hl]
    exact sub_to_nev_ok y W l g d u a b false hl hK hW (by omega) (by omega) ha hb
  by_cases e : l.hd = r.hd
  · cases l with
    | un => simp [PT.dep] at dl
    | two => simp [PT.dep] at dl
    | leaf j =>
      cases r with
      | un => simp [PT.dep] at dr
      | two => simp [PT.dep] at dr
      | leaf k =>
        obtain rfl : j = k := e
        exact sub_leaf_ok y W j g d u a b false (by simpa [PT.inst] using hl) hK hW (by omega) (by omega) ha hb
  · exact sub_apart_ok y W l r g d u a b false tl tr hl hr e hK hW (by omega) (by omega) ha hb
theorem usub_succ (y : Wd) (W : Wo) (n : Nat) (ih : subSpec y W n) : usubSpec y W (n + 1) := by
  intro l r g d u a b tl tr dl dr hK hW hd0 hu0 ha hb
  have zz_ := PT.ty_cases tl
  rcases zz_ with rfl | hl
  · exact sub_nev_ok y W r g d u a b false tr hK hW (by omega) (by omega) ha hb
  have zz_ := PT.ty_cases tr
  rcases zz_ with rfl | hr
  · rw [show l.sub W (.leaf 9) = false from sub_nev hW tl hl]
    exact sub_to_nev_ok y W l g d u a b false hl hK hW (by omega) (by omega) ha hb
  by_cases e : l.hd = r.hd
  · rcases PT.inst_ty tl hl with ⟨k, hk, rfl⟩ | ⟨c, s, hc, ts, rfl⟩ | ⟨s, v, ts, tv, rfl⟩ <;>
    rcases PT.inst_ty tr hr with ⟨k', hk', rfl⟩ | ⟨c', s', hc', ts', rfl⟩ | ⟨s', v', ts', tv', rfl⟩ <;>
    simp only [PT.hd] at e <;> (try omega)
    · obtain rfl : k = k' := e
      exact sub_leaf_ok y W k g d u a b false hk hK hW (by omega) (by omega) ha hb
    · obtain rfl : c = c' := e
      simp only [PT.dep] at dl dr
      exact sub_un_ok y W n ih c s s' g d u a b tl tr (by omega) (by omega) hK hW hd0 hu0 ha hb
    · simp only [PT.dep] at dl dr
      exact sub_two_ok y W n ih s v s' v' g d u a b tl tr (by omega) (by omega) (by omega) (by omega) hK hW hd0 hu0 ha hb
  · exact sub_apart_ok y W l r g d u a b false tl tr hl hr e hK hW (by omega) (by omega) ha hb
theorem EqOr.it {bl : Bool} {l r : PT} (h : EqOr bl l r) (w : bl = true) : l = r := h w
theorem sub_of_u (y : Wd) (W : Wo) (n : Nat) (us : usubSpec y W n) : subSpec y W n := by
  intro l rt g0 d u a b tl tr dl dr hK0 hW hd0 hu0 ha hb
  unfold usubSpec at us
  have ieq := ieq_ok y W n
  unfold ieqSpec at ieq
  have hd : d + 32 < recursionLimit := by omega
  have hu : u + 210 < cLine := by omega
  rcases ha.face tl with ⟨rfl, _, _, _, _, _, e1, e2⟩ | ⟨hl, _, _, _, _, _, _, _, _, e1, e2, e3⟩ <;>
  rcases hb.face tr with ⟨rfl, _, _, _, _, _, e4, e5⟩ | ⟨hr, _, _, _, _, _, _, _, _, e4, e5, e6⟩
  all_goals
    refine pu_of fun F ρ tk R hk K => ?_
    run_tac walk [``ueq_nev, ``ueq_ins, ``ieq_nev]
    all_goals refine K _ _ _ _ _ hle ⟨_, rfl, ?_⟩
    all_goals first
      | assumption
      | (rw [PT.sub_nev]; rfl)
      | (have e := EqOr.it ‹EqOr _ l rt› (by assumption)
         rw [e, PT.sub_refl]; rfl)
theorem usub_ok (y : Wd) (W : Wo) : ∀ n, usubSpec y W n
  | 0 => usub_zero y W
  | n + 1 => usub_succ y W n (sub_of_u y W n (usub_ok y W n))
theorem sub_ok (y : Wd) (W : Wo) (n : Nat) : subSpec y W n := sub_of_u y W n (usub_ok y W n)
/-- the call with two arguments -/
def sub2Spec (y : Wd) (W : Wo) (n : Nat) : Prop := ∀ (l r : PT) (g : Gm) (d u : Nat) (a b : Addr), l.ty → r.ty → l.dep ≤ n → r.dep ≤ n → KIn (tops y) g → WoIs g W → d + (8 * n + 32) < recursionLimit → u + (60 * n + 210) < cLine → TyIs g W a l → TyIs g W b r →
    Pu (cx y) g d u (.call (.ref 658) ⟨[.ref a, .ref b], []⟩) (fun g' res => ∃ bl, res = .ok (.ret (.bool bl)) ∧ Says bl (l.sub W r))
theorem sub2_ok (y : Wd) (W : Wo) (n : Nat) : sub2Spec y W n := by
  intro l rt g0 d u a b tl tr dl dr hK0 hW hd0 hu0 ha hb
  have us := usub_ok y W n
  unfold usubSpec at us
  have ieq := ieq_ok y W n
  unfold ieqSpec at ieq
  have hd : d + 32 < recursionLimit := by omega
  have hu : u + 210 < cLine := by omega
  rcases ha.face tl with ⟨rfl, _, _, _, _, _, e1, e2⟩ | ⟨hl, _, _, _, _, _, _, _, _, e1, e2, e3⟩ <;>
  rcases hb.face tr with ⟨rfl, _, _, _, _, _, e4, e5⟩ | ⟨hr, _, _, _, _, _, _, _, _, e4, e5, e6⟩
  all_goals
    refine pu_of fun F ρ tk R hk K => ?_
    run_tac walk [``ueq_nev, ``ueq_ins, ``ieq_nev]
    all_goals refine K _ _ _ _ _ hle ⟨_, rfl, ?_⟩
    all_goals first
      | assumption
      | (rw [PT.sub_nev]; rfl)
      | (have e := EqOr.it ‹EqOr _ l rt› (by assumption)
         rw [e, PT.sub_refl]; rfl)
/-- is_proper_subtype, classes and never alone -/
theorem upsub_ok (y : Wd) (W : Wo) (l r : PT) (g : Gm) (d u : Nat) (a b : Addr) (tl : l.ty) (tr : r.ty) (dl : l.dep ≤ 0) (dr : r.dep ≤ 0) (hK : KIn (tops y) g) (hW : WoIs g W) (hd : d + 30 < recursionLimit) (hu : u + 200 < cLine) (ha : TyIs g W a l) (hb : TyIs g W b r) :
    Pu (cx y) g d u (.call (.ref 682) ⟨[.ref a, .ref b, .bool true], []⟩) (fun g' res => ∃ bl, res = .ok (.ret (.bool bl)) ∧ Says bl (l.sub W r)) := by
  have zz_ := PT.ty_cases tl
  rcases zz_ with rfl | hl
  · exact sub_nev_ok y W r g d u a b true tr hK hW (by omega) (by omega) ha hb
  have zz_ := PT.ty_cases tr
  rcases zz_ with rfl | hr
  · rw [show l.sub W (.leaf 9) = false from sub_nev hW tl hl]
    exact sub_to_nev_ok y W l g d u a b true hl hK hW (by omega) (by omega) ha hb
  by_cases e : l.hd = r.hd
  · cases l with
    | un => simp [PT.dep] at dl
    | two => simp [PT.dep] at dl
    | leaf j =>
      cases r with
      | un => simp [PT.dep] at dr
      | two => simp [PT.dep] at dr
      | leaf k =>
        obtain rfl : j = k := e
        exact sub_leaf_ok y W j g d u a b true (by simpa [PT.inst] using hl) hK hW (by omega) (by omega) ha hb
  · exact sub_apart_ok y W l r g d u a b true tl tr hl hr e hK hW (by omega) (by omega) ha hb
def psubSpec (y : Wd) (W : Wo) (n : Nat) : Prop := ∀ (l r : PT) (g : Gm) (d u : Nat) (a b : Addr), l.ty → r.ty → l.dep ≤ n → r.dep ≤ n → KIn (tops y) g → WoIs g W → d + (8 * n + 34) < recursionLimit → u + (60 * n + 220) < cLine → TyIs g W a l → TyIs g W b r →
    Pu (cx y) g d u (.call (.ref 665) ⟨[.ref a, .ref b], []⟩) (fun g' res => ∃ bl, res = .ok (.ret (.bool bl)) ∧ Says bl (l.sub W r))
theorem psub_ok (y : Wd) (W : Wo) : psubSpec y W 0 := by
  intro l rt g0 d u a b tl tr dl dr hK0 hW hd0 hu0 ha hb
  have ieq := ieq_ok y W 0
  unfold ieqSpec at ieq
  have hd : d + 34 < recursionLimit := by omega
  have hu : u + 220 < cLine := by omega
  rcases ha.face tl with ⟨rfl, _, _, _, _, _, e1, e2⟩ | ⟨hl, _, _, _, _, _, _, _, _, e1, e2, e3⟩ <;>
  rcases hb.face tr with ⟨rfl, _, _, _, _, _, e4, e5⟩ | ⟨hr, _, _, _, _, _, _, _, _, e4, e5, e6⟩
  all_goals
    refine pu_of fun F ρ tk R hk K => ?_
    run_tac walk [``ueq_nev, ``ueq_ins, ``ieq_nev, ``upsub_ok]
    all_goals refine K _ _ _ _ _ hle ⟨_, rfl, ?_⟩
    all_goals first
      | assumption
      | (rw [PT.sub_nev]; rfl)
      | (have e := EqOr.it ‹EqOr _ l rt› (by assumption)
         rw [e, PT.sub_refl]; rfl)
end Mine

/-! C6 -/
namespace Mine
open PySem PySem.W PySem.W.X
def PT.simp : PT → Prop
  | .leaf c => c < 4
  | .un c (.leaf k) => c = 4 ∧ k < 4
  | _ => False
def Wo.lub (W : Wo) : Nat → Nat → Nat → Nat
  | 0, t, _ => t
  | n + 1, t, s => if t = s then t else if t ≠ 0 ∧ (W.mro t).contains s = true then W.lub n (W.par t) s else W.lub n (W.par s) t
theorem lub_succ (W : Wo) (n t s : Nat) : W.lub (n + 1) t s = if t = s then t else if t ≠ 0 ∧ (W.mro t).contains s = true then W.lub n (W.par t) s else W.lub n (W.par s) t := rfl
def JoinerIs (g : Gm) (J : Addr) : Prop := ∃ d n, g J = some (ins 793 d) ∧ g d = some (dct [] n)
theorem JoinerIs.mono {g g' : Gm} {J : Addr} (l : Le g g') (h : JoinerIs g J) : JoinerIs g' J := let ⟨d, n, a, b⟩ := h; ⟨d, n, l _ _ a, l _ _ b⟩
theorem PT.simp_cases {t : PT} (h : t.simp) : (∃ k, k < 4 ∧ t = .leaf k) ∨ ∃ k, k < 4 ∧ t = .un 4 (.leaf k) := by
  match t, h with
  | .leaf c, h => exact .inl ⟨c, h, rfl⟩
  | .un c (.leaf k), h => exact .inr ⟨k, h.2, by rw [h.1]⟩
theorem PT.simp_ty {t : PT} (h : t.simp) : t.ty := by
  have zz_ := t.simp_cases h
  rcases zz_ with ⟨k, h', rfl⟩ | ⟨k, h', rfl⟩
  · exact .inl h'
  · exact ⟨.inl rfl, .inl h'⟩
theorem PT.simp_inst {t : PT} (h : t.simp) : t.inst = true := by
  have zz_ := t.simp_cases h
  rcases zz_ with ⟨k, h', rfl⟩ | ⟨k, h', rfl⟩
  · simpa [PT.inst] using h'
  · rfl
theorem PT.simp_hd {t : PT} (h : t.simp) : t.hd < 5 := by
  have zz_ := t.simp_cases h
  rcases zz_ with ⟨k, h', rfl⟩ | ⟨k, h', rfl⟩ <;> simp only [PT.hd] <;> omega
theorem ji_same (y : Wd) (W : Wo) (k : Nat) (g0 : Gm) (d u : Nat) (J a b : Addr) (k4 : k < 4) (hK0 : KIn (tops y) g0) (hW : WoIs g0 W) (hd : d + 30 < recursionLimit) (hu : u + 200 < cLine) (ha : TyIs g0 W a (.leaf k)) (hb : TyIs g0 W b (.leaf k)) (hJ : JoinerIs g0 J) :
    Pu (cx y) g0 d u (.call (.ref 785) ⟨[.ref J, .ref a, .ref b], []⟩) (fun g' res => ∃ c, res = .ok (.ret (.ref c)) ∧ TyIs g' W c (.leaf k)) := by
  have k7 : k < 7 := by omega
  have zz_ := ha.cls_inv k4
  obtain ⟨_, _, _, _, _, _, _, f7, f8, f9⟩ := zz_
  have zz_ := hb.cls_inv k4
  obtain ⟨_, _, _, _, _, _, _, f4, f5, f6⟩ := zz_
  obtain ⟨_, _, f1, f2⟩ := hJ
  have zz_ := (hW.info _ k7).inv
  obtain ⟨dd, dn, ddd, tl, tv, bl, ml, _, _, _, _, _, _, _, _, _, _, _, _, _, _, _, _, _, _, _, names, bs, e1, e2, e3, e4, e5, e6, q, e7, b0, b1, e8⟩ := zz_
  rw [tvs_lo W k4] at e5 q
  refine pu_of fun F ρ tk R hk K => ?_
  run_tac walk [``mk0_ok]
  all_goals exact K _ _ _ _ _ hle ⟨_, rfl, .cls k4 (by assumption) (by assumption) (by assumption)⟩
theorem WoIs.zero_in {g : Gm} {W : Wo} (h : WoIs g W) {k : Nat} (hk : k < 7) : 0 ∈ W.mro k := by
  have z : ∀ n k, k < 7 → k ≤ n → 0 ∈ W.anc n k := by
    intro n
    induction n with
    | zero => intro k _ q; obtain rfl : k = 0 := by omega
              simp [Wo.anc]
    | succ n ih =>
      intro k hk q
      unfold Wo.anc
      by_cases h0 : k = 0
      · rw [if_pos h0]; simp
      · rw [if_neg h0]
        have := h.parLt hk h0
        exact List.mem_cons_of_mem _ (ih _ (by omega) (by omega))
  exact z 7 k hk (by omega)
theorem WoIs.par_in {g : Gm} {W : Wo} (h : WoIs g W) {k : Nat} (hk : k < 7) (h0 : k ≠ 0) : W.par k ∈ W.mro k := by
  show W.par k ∈ W.anc 7 k
  unfold Wo.anc
  rw [if_neg h0]
  refine List.mem_cons_of_mem _ ?_
  unfold Wo.anc
  split
  · simp_all
  · exact List.mem_cons_self
theorem WoIs.par_lo {g : Gm} {W : Wo} (h : WoIs g W) {k : Nat} (hk : k < 7) (h0 : k ≠ 0) : W.par k < 4 := by
  have := h.par1; have := h.par2; have := h.par3; have := h.par4; have := h.par5; have := h.par6
  have : k = 1 ∨ k = 2 ∨ k = 3 ∨ k = 4 ∨ k = 5 ∨ k = 6 := by omega
  rcases this with rfl | rfl | rfl | rfl | rfl | rfl <;> omega
def jiSpec (y : Wd) (W : Wo) (n : Nat) : Prop := ∀ (t s : PT) (g0 : Gm) (d u : Nat) (J a b : Addr), t.simp → s.simp → (t.hd ≠ s.hd ∨ t.hd < 4) → t.hd + s.hd ≤ n → KIn (tops y) g0 → WoIs g0 W → d + (4 * n + 30) < recursionLimit → u + (40 * n + 200) < cLine → TyIs g0 W a t → TyIs g0 W b s → JoinerIs g0 J →
    Pu (cx y) g0 d u (.call (.ref 785) ⟨[.ref J, .ref a, .ref b], []⟩) (fun g' res => ∃ c, res = .ok (.ret (.ref c)) ∧ TyIs g' W c (.leaf (W.lub n t.hd s.hd)))
theorem ji_step (y : Wd) (W : Wo) (n : Nat) (ih : jiSpec y W n) : jiSpec y W (n + 1) := by
  intro t s g0 d u J a b ht hs hor le hK0 hW hd0 hu0 ha hb hJ
  have hd : d + 34 < recursionLimit := by omega
  have hu : u + 240 < cLine := by omega
  have hi := PT.simp_inst ht
  have hi' := PT.simp_inst hs
  have t5 := PT.simp_hd ht
  have s5 := PT.simp_hd hs
  have t7 : t.hd < 7 := by omega
  have s7 : s.hd < 7 := by omega
  by_cases e : t.hd = s.hd
  · have t4 : t.hd < 4 := by omega
    have et : t = .leaf t.hd := by
      have zz_ := PT.simp_cases ht
      rcases zz_ with ⟨k, h', rfl⟩ | ⟨k, h', rfl⟩
      · rfl
      · simp only [PT.hd] at t4; omega
    have es : s = .leaf t.hd := by
      have zz_ := PT.simp_cases hs
      rcases zz_ with ⟨k, h', rfl⟩ | ⟨k, h', rfl⟩
      · rw [e]; rfl
      · simp only [PT.hd] at t4 e; omega
    have : W.lub (n + 1) t.hd s.hd = t.hd := by simp [Wo.lub, e]
    rw [this]
    rw [et] at ha
    rw [es] at hb
    exact ji_same y W t.hd g0 d u J a b t4 hK0 hW (by omega) (by omega) ha hb hJ
  · have ne : W.I t.hd ≠ W.I s.hd := fun z => e (hW.inj _ _ t7 s7 z)
    unfold jiSpec at ih
    have zz_ := ha.inst_inv hi
    obtain ⟨_, _, _, _, _, _, _, _, f1, f2, f3, f4, _⟩ := zz_
    have zz_ := hb.inst_inv hi'
    obtain ⟨_, _, _, _, _, _, _, _, f5, f6, f7, f8, _⟩ := zz_
    have hJ' := hJ
    obtain ⟨_, _, f9, f10⟩ := hJ'
    have zz_ := (hW.info _ t7).inv
    obtain ⟨dd, dn, ddd, tl, tv, bl, ml, _, _, _, _, _, _, _, _, _, _, _, _, _, _, _, _, _, _, _, names, bs, e1, e2, e3, e4, e5, e6, q, e7, b0, b1, e8⟩ := zz_
    have zz_ := (hW.info _ s7).inv
    obtain ⟨dd', dn', ddd', tl', tv', bl', ml', _, _, _, _, _, _, _, _, _, _, _, _, _, _, _, _, _, _, _, names', bs', e1', e2', e3', e4', e5', e6', q', e7', b0', b1', e8'⟩ := zz_
    by_cases t0 : t.hd = 0
    · have s0 : s.hd ≠ 0 := by omega
      have : W.lub (n + 1) t.hd s.hd = W.lub n (W.par s.hd) t.hd := by rw [lub_succ, if_neg e, if_neg (fun z => z.1 t0)]
      rw [this]
      obtain rfl := b0 t0
      have zz_ := b1' s0
      obtain ⟨bb, rfl, hbb⟩ := zz_
      have p4 := hW.par_lo s7 s0
      have pm := hW.par_in s7 s0
      have ps : (PT.leaf (W.par s.hd)).simp := p4
      have por : (PT.leaf (W.par s.hd)).hd ≠ t.hd ∨ (PT.leaf (W.par s.hd)).hd < 4 := .inr p4
      have pl : (PT.leaf (W.par s.hd)).hd + t.hd ≤ n := by have := hW.parLt s7 s0; show W.par s.hd + t.hd ≤ n; omega
      have zz_ := hbb.cls_inv p4
      obtain ⟨_, _, _, _, _, _, _, g1, g2, g3⟩ := zz_
      refine pu_of fun F ρ tk R hk K => ?_
      run_tac walk [``mk0_ok, ``map_lo]
      all_goals exact K _ _ _ _ _ hle ⟨_, rfl, by assumption⟩
    · cases hc : (W.mro t.hd).contains s.hd with
      | true =>
        have : W.lub (n + 1) t.hd s.hd = W.lub n (W.par t.hd) s.hd := by rw [lub_succ, if_neg e, if_pos ⟨t0, hc⟩]
        rw [this]
        have zz_ := b1 t0
        obtain ⟨bb, rfl, hbb⟩ := zz_
        have p4 := hW.par_lo t7 t0
        have pm := hW.par_in t7 t0
        have ps : (PT.leaf (W.par t.hd)).simp := p4
        have por : (PT.leaf (W.par t.hd)).hd ≠ s.hd ∨ (PT.leaf (W.par t.hd)).hd < 4 := .inr p4
        have pl : (PT.leaf (W.par t.hd)).hd + s.hd ≤ n := by have := hW.parLt t7 t0; show W.par t.hd + s.hd ≤ n; omega
        have zz_ := hbb.cls_inv p4
        obtain ⟨_, _, _, _, _, _, _, g1, g2, g3⟩ := zz_
        refine pu_of fun F ρ tk R hk K => ?_
        run_tac walk [``mk0_ok, ``map_lo, ``has_base_yes]
        all_goals exact K _ _ _ _ _ hle ⟨_, rfl, by assumption⟩
      | false =>
        have : W.lub (n + 1) t.hd s.hd = W.lub n (W.par s.hd) t.hd := by rw [lub_succ, if_neg e, if_neg (fun z => by rw [hc] at z; exact nomatch z.2)]
        rw [this]
        have s0 : s.hd ≠ 0 := fun z => by
          have := hW.zero_in t7
          rw [z] at hc
          simp at hc
          exact hc this
        have zz_ := b1' s0
        obtain ⟨bb, rfl, hbb⟩ := zz_
        have zz_ := b1 t0
        obtain ⟨bb', rfl, hbb'⟩ := zz_
        have p4 := hW.par_lo s7 s0
        have pm := hW.par_in s7 s0
        have ps : (PT.leaf (W.par s.hd)).simp := p4
        have por : (PT.leaf (W.par s.hd)).hd ≠ t.hd ∨ (PT.leaf (W.par s.hd)).hd < 4 := .inr p4
        have pl : (PT.leaf (W.par s.hd)).hd + t.hd ≤ n := by have := hW.parLt s7 s0; show W.par s.hd + t.hd ≤ n; omega
        have zz_ := hbb.cls_inv p4
        obtain ⟨_, _, _, _, _, _, _, g1, g2, g3⟩ := zz_
        refine pu_of fun F ρ tk R hk K => ?_
        run_tac walk [``mk0_ok, ``map_lo, ``has_base_no]
        all_goals exact K _ _ _ _ _ hle ⟨_, rfl, by assumption⟩
theorem ji_ok (y : Wd) (W : Wo) : ∀ n, jiSpec y W n
  | 0 => by
    intro t s g0 d u J a b ht hs hor le hK0 hW hd0 hu0 ha hb hJ
    have t0 : t.hd = 0 := by omega
    have s0 : s.hd = 0 := by omega
    have et : t = .leaf 0 := by
      have zz_ := PT.simp_cases ht
      rcases zz_ with ⟨k, h', rfl⟩ | ⟨k, h', rfl⟩
      · rw [← t0]; rfl
      · simp [PT.hd] at t0
    have es : s = .leaf 0 := by
      have zz_ := PT.simp_cases hs
      rcases zz_ with ⟨k, h', rfl⟩ | ⟨k, h', rfl⟩
      · rw [← s0]; rfl
      · simp [PT.hd] at s0
    subst et
    subst es
    exact ji_same y W 0 g0 d u J a b (by omega) hK0 hW (by omega) (by omega) ha hb hJ
  | n + 1 => ji_step y W n (ji_ok y W n)
end Mine

/-! C7 -/
namespace Mine
open PySem PySem.W PySem.W.X
open Lean Elab Tactic in
def walkJ (specs : List Name := []) (fuel : Nat := 3000) : TacticM Unit :=
  walkTac specs (do evalTactic (← `(tactic| first | assumption | rfl | omega | exact ⟨_, _, by assumption, by assumption⟩))) fuel
theorem sub_top {W : Wo} {g : Gm} (hW : WoIs g W) {l : PT} (tl : l.ty) : l.sub W (.leaf 0) = true := by
  have zz_ := PT.ty_cases tl
  rcases zz_ with rfl | hl
  · rw [PT.sub_nev]
  have zz_ := PT.inst_ty tl hl
  rcases zz_ with ⟨k, hk, rfl⟩ | ⟨c, s, hc, ts, rfl⟩ | ⟨s, v, ts, tv, rfl⟩
  · have := hW.zero_in (k := k) (by omega)
    simp [PT.sub, this]
  · simp [PT.sub]
  · simp [PT.sub]
/-- everything is below object -/
theorem sub2_top (y : Wd) (W : Wo) (l : PT) (g : Gm) (d u : Nat) (a b : Addr) (tl : l.ty) (dl : l.dep ≤ 3) (hK : KIn (tops y) g) (hW : WoIs g W) (hd : d + 56 < recursionLimit) (hu : u + 390 < cLine) (ha : TyIs g W a l) (hb : TyIs g W b (.leaf 0)) :
    Pu (cx y) g d u (.call (.ref 658) ⟨[.ref a, .ref b], []⟩) (fun g' res => res = .ok (.ret (.bool true))) := by
  refine (sub2_ok y W 3 l (.leaf 0) g d u a b tl (.inl (by omega)) dl (by simp [PT.dep]) hK hW (by omega) (by omega) ha hb).mono ?_
  rintro g' r _ ⟨bl, h, s⟩
  unfold Says at s
  rw [sub_top hW tl] at s
  rw [h, s]
/-- the join of two targets; s and t as join_types has them -/
def PT.join (W : Wo) : PT → PT → PT
  | .un _ (.leaf a), .un _ (.leaf b) => .un 4 (.leaf (W.lub 8 a b))
  | s, t => .leaf (W.lub 8 t.hd s.hd)
theorem WoIs.lub_lt {g : Gm} {W : Wo} (hW : WoIs g W) : ∀ n t s, t < 5 → s < 5 → t + s ≤ n → (t ≠ s ∨ t < 4) → W.lub n t s < 4
  | 0, t, s, ht, hs, le, ho => by show t < 4; omega
  | n + 1, t, s, ht, hs, le, ho => by
    rw [lub_succ]
    split
    · omega
    · split
      · rename_i h
        have := hW.parLt (k := t) (by omega) h.1
        have := hW.par_lo (k := t) (by omega) h.1
        exact hW.lub_lt n _ _ (by omega) hs (by omega) (by omega)
      · rename_i e h
        have s0 : s ≠ 0 := fun z => by
          by_cases t0 : t = 0
          · omega
          · refine h ⟨t0, ?_⟩
            rw [z]
            simpa using hW.zero_in (k := t) (by omega)
        have := hW.parLt (k := s) (by omega) s0
        have := hW.par_lo (k := s) (by omega) s0
        exact hW.lub_lt n _ _ (by omega) ht (by omega) (by omega)
theorem ji_box (y : Wd) (W : Wo) (k j : Nat) (g0 : Gm) (d u : Nat) (J a b : Addr) (k4 : k < 4) (j4 : j < 4) (hK0 : KIn (tops y) g0) (hW : WoIs g0 W) (hd : d + 90 < recursionLimit) (hu : u + 600 < cLine) (ha : TyIs g0 W a (.un 4 (.leaf k))) (hb : TyIs g0 W b (.un 4 (.leaf j))) (hJ : JoinerIs g0 J) :
    Pu (cx y) g0 d u (.call (.ref 785) ⟨[.ref J, .ref a, .ref b], []⟩) (fun g' res => ∃ c, res = .ok (.ret (.ref c)) ∧ TyIs g' W c (.un 4 (.leaf (W.lub 8 j k)))) := by
  have zz_ := ha.un_inv
  obtain ⟨_, _, _, x, _, _, _, _, _, f1, f2, f3, h0⟩ := zz_
  have zz_ := hb.un_inv
  obtain ⟨_, _, _, x', _, _, _, _, _, f4, f5, f6, h1⟩ := zz_
  have zz_ := h0.cls_inv k4
  obtain ⟨_, _, _, _, _, _, _, f7, f8, f9⟩ := zz_
  have zz_ := h1.cls_inv j4
  obtain ⟨_, _, _, _, _, _, _, f10, f11, f12⟩ := zz_
  have hJ' := hJ
  obtain ⟨_, _, f13, f14⟩ := hJ'
  have zz_ := (hW.info 4 (by omega)).inv
  obtain ⟨dd, dn, ddd, tl, tv, bl, ml, _, _, _, _, _, _, _, _, _, _, _, _, _, _, _, _, _, _, _, names, bs, e1, e2, e3, e4, e5, e6, q, e7, b0, b1, e8⟩ := zz_
  simp only [tvs] at e5
  have zz_ := hW.rise
  obtain ⟨_, w⟩ := zz_
  cases w with | mk v1 v2 v3 =>
  have hr := hW.rootIs
  have ji := ji_ok y W 8
  unfold jiSpec at ji
  have s1 : (PT.leaf k).simp := k4
  have s2 : (PT.leaf j).simp := j4
  have s3 : (PT.leaf j).hd ≠ (PT.leaf k).hd ∨ (PT.leaf j).hd < 4 := .inr j4
  have s4 : (PT.leaf j).hd + (PT.leaf k).hd ≤ 8 := by show j + k ≤ 8; omega
  have s5 : (PT.leaf (W.lub 8 (PT.leaf j).hd (PT.leaf k).hd)).ty := .inl (hW.lub_lt 8 j k (by omega) (by omega) (by omega) (by omega))
  have s6 : (PT.leaf (W.lub 8 (PT.leaf j).hd (PT.leaf k).hd)).dep ≤ 3 := by simp [PT.dep]
  refine pu_of fun F ρ tk R hk K => ?_
  run_tac walkJ [``mk1_ok, ``sub2_top]
  all_goals exact K _ _ _ _ _ hle ⟨_, rfl, .un (.inl rfl) (by assumption) (by assumption) (by assumption) (by assumption)⟩
theorem join_ok (y : Wd) (W : Wo) (s t : PT) (g0 : Gm) (d u : Nat) (a b : Addr) (hs : s.simp) (ht : t.simp) (hK0 : KIn (tops y) g0) (hW : WoIs g0 W) (hd : d + 99 < recursionLimit) (hu : u + 700 < cLine) (ha : TyIs g0 W a s) (hb : TyIs g0 W b t) :
    Pu (cx y) g0 d u (.call (.ref 805) ⟨[.ref a, .ref b], []⟩) (fun g' res => ∃ c, res = .ok (.ret (.ref c)) ∧ TyIs g' W c (s.join W t)) := by
  have zz_ := ha.inst_inv (PT.simp_inst hs)
  obtain ⟨_, _, _, _, _, _, _, _, f1, f2, f3, f4, _⟩ := zz_
  have zz_ := hb.inst_inv (PT.simp_inst ht)
  obtain ⟨_, _, _, _, _, _, _, _, f5, f6, f7, f8, _⟩ := zz_
  by_cases e : t.hd ≠ s.hd ∨ t.hd < 4
  · have : s.join W t = .leaf (W.lub 8 t.hd s.hd) := by
      have zz_ := PT.simp_cases hs
      rcases zz_ with ⟨k, h', rfl⟩ | ⟨k, h', rfl⟩ <;> rcases PT.simp_cases ht with ⟨j, h'', rfl⟩ | ⟨j, h'', rfl⟩ <;> first | rfl | (simp only [PT.hd] at e; omega)
    rw [this]
    have ji := ji_ok y W 8
    unfold jiSpec at ji
    have s4 : t.hd + s.hd ≤ 8 := by have := PT.simp_hd hs; have := PT.simp_hd ht; omega
    refine pu_of fun F ρ tk R hk K => ?_
    run_tac walkJ
    all_goals exact K _ _ _ _ _ hle ⟨_, rfl, by assumption⟩
  · have zz_ := PT.simp_cases hs
    rcases zz_ with ⟨k, h', rfl⟩ | ⟨k, h', rfl⟩ <;> rcases PT.simp_cases ht with ⟨j, h'', rfl⟩ | ⟨j, h'', rfl⟩
    all_goals first
      | (simp only [PT.hd] at e; omega)
      | skip
    simp only [PT.join]
    refine pu_of fun F ρ tk R hk K => ?_
    run_tac walkJ [``ji_box]
    all_goals exact K _ _ _ _ _ hle ⟨_, rfl, by assumption⟩
theorem PT.simp_join {g : Gm} {W : Wo} (hW : WoIs g W) {s t : PT} (hs : s.simp) (ht : t.simp) : (s.join W t).simp := by
  have zz_ := PT.simp_cases hs
  rcases zz_ with ⟨k, h', rfl⟩ | ⟨k, h', rfl⟩ <;> rcases PT.simp_cases ht with ⟨j, h'', rfl⟩ | ⟨j, h'', rfl⟩
  · exact hW.lub_lt 8 j k (by omega) (by omega) (by omega) (by omega)
  · exact hW.lub_lt 8 4 k (by omega) (by omega) (by omega) (by omega)
  · exact hW.lub_lt 8 j 4 (by omega) (by omega) (by omega) (by omega)
  · exact ⟨rfl, hW.lub_lt 8 k j (by omega) (by omega) (by omega) (by omega)⟩
end Mine

/-! C8 -/
namespace Mine
open PySem PySem.W PySem.W.X
theorem psub_yes (y : Wd) (W : Wo) (l r : PT) (g : Gm) (d u : Nat) (a b : Addr) (tl : l.ty) (tr : r.ty) (dl : l.dep ≤ 0) (dr : r.dep ≤ 0) (hs : l.sub W r = true) (hK : KIn (tops y) g) (hW : WoIs g W) (hd : d + 40 < recursionLimit) (hu : u + 240 < cLine) (ha : TyIs g W a l) (hb : TyIs g W b r) :
    Pu (cx y) g d u (.call (.ref 665) ⟨[.ref a, .ref b], []⟩) (fun g' res => res = .ok (.ret (.bool true))) := by
  refine (psub_ok y W l r g d u a b tl tr dl dr hK hW (by omega) (by omega) ha hb).mono ?_
  rintro g' r _ ⟨bl, h, s⟩
  unfold Says at s
  rw [hs] at s
  rw [h, s]
theorem psub_no (y : Wd) (W : Wo) (l r : PT) (g : Gm) (d u : Nat) (a b : Addr) (tl : l.ty) (tr : r.ty) (dl : l.dep ≤ 0) (dr : r.dep ≤ 0) (hs : l.sub W r = false) (hK : KIn (tops y) g) (hW : WoIs g W) (hd : d + 40 < recursionLimit) (hu : u + 240 < cLine) (ha : TyIs g W a l) (hb : TyIs g W b r) :
    Pu (cx y) g d u (.call (.ref 665) ⟨[.ref a, .ref b], []⟩) (fun g' res => res = .ok (.ret (.bool false))) := by
  refine (psub_ok y W l r g d u a b tl tr dl dr hK hW (by omega) (by omega) ha hb).mono ?_
  rintro g' r _ ⟨bl, h, s⟩
  unfold Says at s
  rw [hs] at s
  rw [h, s]
theorem sub2z_yes (y : Wd) (W : Wo) (l r : PT) (g : Gm) (d u : Nat) (a b : Addr) (tl : l.ty) (tr : r.ty) (dl : l.dep ≤ 0) (dr : r.dep ≤ 0) (hs : l.sub W r = true) (hK : KIn (tops y) g) (hW : WoIs g W) (hd : d + 40 < recursionLimit) (hu : u + 240 < cLine) (ha : TyIs g W a l) (hb : TyIs g W b r) :
    Pu (cx y) g d u (.call (.ref 658) ⟨[.ref a, .ref b], []⟩) (fun g' res => res = .ok (.ret (.bool true))) := by
  refine (sub2_ok y W 0 l r g d u a b tl tr dl dr hK hW (by omega) (by omega) ha hb).mono ?_
  rintro g' r _ ⟨bl, h, s⟩
  unfold Says at s
  rw [hs] at s
  rw [h, s]
theorem sub2z_no (y : Wd) (W : Wo) (l r : PT) (g : Gm) (d u : Nat) (a b : Addr) (tl : l.ty) (tr : r.ty) (dl : l.dep ≤ 0) (dr : r.dep ≤ 0) (hs : l.sub W r = false) (hK : KIn (tops y) g) (hW : WoIs g W) (hd : d + 40 < recursionLimit) (hu : u + 240 < cLine) (ha : TyIs g W a l) (hb : TyIs g W b r) :
    Pu (cx y) g d u (.call (.ref 658) ⟨[.ref a, .ref b], []⟩) (fun g' res => res = .ok (.ret (.bool false))) := by
  refine (sub2_ok y W 0 l r g d u a b tl tr dl dr hK hW (by omega) (by omega) ha hb).mono ?_
  rintro g' r _ ⟨bl, h, s⟩
  unfold Says at s
  rw [hs] at s
  rw [h, s]

def PT.meet (W : Wo) (s t : PT) : PT := if s.sub W t = true then s else if t.sub W s = true then t else .leaf 9
theorem PT.z_cases {t : PT} (h : t.ty) (d : t.dep ≤ 0) : t = .leaf 9 ∨ ∃ k, k < 4 ∧ t = .leaf k := by
  cases t with
  | leaf c => rcases h with h | h
              · exact .inr ⟨c, h, rfl⟩
              · exact .inl (by rw [h])
  | un c t => simp [PT.dep] at d
  | two t u => simp [PT.dep] at d
theorem meet_ok (y : Wd) (W : Wo) (s t : PT) (g0 : Gm) (d u : Nat) (a b : Addr) (ts : s.ty) (tt : t.ty) (ds : s.dep ≤ 0) (dt : t.dep ≤ 0) (hK0 : KIn (tops y) g0) (hW : WoIs g0 W) (hd : d + 60 < recursionLimit) (hu : u + 400 < cLine) (ha : TyIs g0 W a s) (hb : TyIs g0 W b t) :
    Pu (cx y) g0 d u (.call (.ref 909) ⟨[.ref a, .ref b], []⟩) (fun g' res => ∃ c, res = .ok (.ret (.ref c)) ∧ TyIs g' W c (s.meet W t)) := by
  unfold PT.meet
  cases h1 : s.sub W t with
  | true =>
    rw [if_pos rfl]
    refine pu_of fun F ρ tk R hk K => ?_
    run_tac walk [``psub_yes]
    all_goals exact K _ _ _ _ _ hle ⟨_, rfl, by assumption⟩
  | false =>
    rw [if_neg (by decide)]
    cases h2 : t.sub W s with
    | true =>
      rw [if_pos rfl]
      refine pu_of fun F ρ tk R hk K => ?_
      run_tac walk [``psub_yes, ``psub_no]
      all_goals exact K _ _ _ _ _ hle ⟨_, rfl, by assumption⟩
    | false =>
      rw [if_neg (by decide)]
      have zz_ := PT.z_cases ts ds
      rcases zz_ with rfl | ⟨k, k4, rfl⟩
      · rw [PT.sub_nev] at h1; cases h1
      have zz_ := PT.z_cases tt dt
      rcases zz_ with rfl | ⟨j, j4, rfl⟩
      · rw [PT.sub_nev] at h2; cases h2
      have ne : W.I j ≠ W.I k := fun z => by
        obtain rfl := hW.inj _ _ (by omega) (by omega) z
        rw [PT.sub_refl] at h1; cases h1
      have zz_ := hW.ins (k := j) (by omega)
      obtain ⟨_, i1⟩ := zz_
      have zz_ := hW.ins (k := k) (by omega)
      obtain ⟨_, i2⟩ := zz_
      have zz_ := ha.cls_inv k4
      obtain ⟨_, _, _, _, _, _, _, f7, f8, f9⟩ := zz_
      have zz_ := hb.cls_inv j4
      obtain ⟨_, _, _, _, _, _, _, f4, f5, f6⟩ := zz_
      refine pu_of fun F ρ tk R hk K => ?_
      run_tac walk [``psub_no, ``sub2z_no]
      all_goals exact K _ _ _ _ _ hle ⟨_, rfl, .nev (by assumption) (by assumption)⟩
theorem PT.meet_z {W : Wo} {s t : PT} (ts : s.ty) (tt : t.ty) (ds : s.dep ≤ 0) (dt : t.dep ≤ 0) : (s.meet W t).ty ∧ (s.meet W t).dep ≤ 0 := by
  unfold PT.meet
  split
  · exact ⟨ts, ds⟩
  · split
    · exact ⟨tt, dt⟩
    · exact ⟨.inr rfl, Nat.le_refl 0⟩
end Mine

/-! M1 -/
namespace Mine
open PySem PySem.W PySem.W.X
/-! plain mathematics: the classes' order, the least upper bound, the greatest lower bound -/
structure ParOk (W : Wo) : Prop where
  p1 : W.par 1 = 0
  p2 : W.par 2 < 2
  p3 : W.par 3 < 3
  p4 : W.par 4 = 0
  p5 : W.par 5 = 0
  p6 : W.par 6 = 0
theorem WoIs.parOk {g : Gm} {W : Wo} (h : WoIs g W) : ParOk W := ⟨h.par1, h.par2, h.par3, h.par4, h.par5, h.par6⟩
def mkW (p2 p3 : Nat) : Wo := ⟨fun _ => ⟨#[]⟩, fun _ => 0, fun k => if k = 2 then p2 else if k = 3 then p3 else 0, 0, 0, fun _ => 0, fun _ => 0, 0⟩
theorem ParOk.eq {W : Wo} (h : ParOk W) : ∀ k, k < 7 → k ≠ 0 → W.par k = (mkW (W.par 2) (W.par 3)).par k := by
  intro k hk h0
  have : k = 1 ∨ k = 2 ∨ k = 3 ∨ k = 4 ∨ k = 5 ∨ k = 6 := by omega
  rcases this with rfl | rfl | rfl | rfl | rfl | rfl
  · exact h.p1
  · rfl
  · rfl
  · exact h.p4
  · exact h.p5
  · exact h.p6
theorem ParOk.lt {W : Wo} (h : ParOk W) {k : Nat} (hk : k < 7) (h0 : k ≠ 0) : W.par k < k := by
  have := h.p1; have := h.p2; have := h.p3; have := h.p4; have := h.p5; have := h.p6
  have : k = 1 ∨ k = 2 ∨ k = 3 ∨ k = 4 ∨ k = 5 ∨ k = 6 := by omega
  rcases this with rfl | rfl | rfl | rfl | rfl | rfl <;> omega
theorem ParOk.anc {W : Wo} (h : ParOk W) : ∀ n k, k < 7 → W.anc n k = (mkW (W.par 2) (W.par 3)).anc n k
  | 0, _, _ => rfl
  | n + 1, k, hk => by
    unfold Wo.anc
    by_cases h0 : k = 0
    · rw [if_pos h0, if_pos h0]
    · rw [if_neg h0, if_neg h0, ← h.eq k hk h0, h.anc n _ (Nat.lt_trans (h.lt hk h0) hk)]
theorem ParOk.mro {W : Wo} (h : ParOk W) {k : Nat} (hk : k < 7) : W.mro k = (mkW (W.par 2) (W.par 3)).mro k := h.anc 7 k hk
theorem ParOk.lub {W : Wo} (h : ParOk W) : ∀ n t s, t < 7 → s < 7 → W.lub n t s = (mkW (W.par 2) (W.par 3)).lub n t s
  | 0, _, _, _, _ => rfl
  | n + 1, t, s, ht, hs => by
    rw [lub_succ, lub_succ, ← h.mro ht]
    split
    · rfl
    · rename_i ne
      split
      · rename_i q
        rw [← h.eq t ht q.1]
        exact h.lub n _ _ (Nat.lt_trans (h.lt ht q.1) ht) hs
      · rename_i q
        have s0 : s ≠ 0 := by
          rintro rfl
          refine q ⟨ne, ?_⟩
          have p := h.anc 7 t ht
          rw [h.mro ht]
          have z : ∀ p2, p2 < 2 → ∀ p3, p3 < 3 → ∀ t, t < 7 → ((mkW p2 p3).mro t).contains 0 = true := by decide +kernel
          exact z _ h.p2 _ h.p3 t ht
        rw [← h.eq s hs s0]
        exact h.lub n _ _ (Nat.lt_trans (h.lt hs s0) hs) ht
/-- below, among the classes -/
def Wo.bel (W : Wo) (a b : Nat) : Bool := (W.mro a).contains b
theorem ParOk.bel {W : Wo} (h : ParOk W) {a : Nat} (ha : a < 7) (b : Nat) : W.bel a b = (mkW (W.par 2) (W.par 3)).bel a b := by
  unfold Wo.bel; rw [h.mro ha]
section
variable {W : Wo} (h : ParOk W)
include h
theorem ParOk.refl {a : Nat} (ha : a < 7) : W.bel a a = true := by
  rw [h.bel ha]
  have z : ∀ p2, p2 < 2 → ∀ p3, p3 < 3 → ∀ a, a < 7 → (mkW p2 p3).bel a a = true := by decide +kernel
  exact z _ h.p2 _ h.p3 a ha
theorem ParOk.top {a : Nat} (ha : a < 7) : W.bel a 0 = true := by
  rw [h.bel ha]
  have z : ∀ p2, p2 < 2 → ∀ p3, p3 < 3 → ∀ a, a < 7 → (mkW p2 p3).bel a 0 = true := by decide +kernel
  exact z _ h.p2 _ h.p3 a ha
theorem ParOk.trans {a b c : Nat} (ha : a < 7) (hb : b < 7) (hc : c < 7) (x : W.bel a b = true) (y : W.bel b c = true) : W.bel a c = true := by
  rw [h.bel ha] at x ⊢; rw [h.bel hb] at y
  have z : ∀ p2, p2 < 2 → ∀ p3, p3 < 3 → ∀ a, a < 7 → ∀ b, b < 7 → ∀ c, c < 7 → ((mkW p2 p3).bel a b && (mkW p2 p3).bel b c && !(mkW p2 p3).bel a c) = false := by decide +kernel
  have := z _ h.p2 _ h.p3 a ha b hb c hc
  rw [x, y] at this
  simpa using this
theorem ParOk.anti {a b : Nat} (ha : a < 7) (hb : b < 7) (x : W.bel a b = true) (y : W.bel b a = true) : a = b := by
  rw [h.bel ha] at x; rw [h.bel hb] at y
  have z : ∀ p2, p2 < 2 → ∀ p3, p3 < 3 → ∀ a, a < 7 → ∀ b, b < 7 → ((mkW p2 p3).bel a b && (mkW p2 p3).bel b a && !(a == b)) = false := by decide +kernel
  have := z _ h.p2 _ h.p3 a ha b hb
  rw [x, y] at this
  simpa using this
/-- a tree: what is below two is below in a line -/
theorem ParOk.line {a b c : Nat} (ha : a < 7) (hb : b < 7) (hc : c < 7) (x : W.bel c a = true) (y : W.bel c b = true) : W.bel a b = true ∨ W.bel b a = true := by
  rw [h.bel hc] at x y; rw [h.bel ha, h.bel hb]
  have z : ∀ p2, p2 < 2 → ∀ p3, p3 < 3 → ∀ a, a < 7 → ∀ b, b < 7 → ∀ c, c < 7 → ((mkW p2 p3).bel c a && (mkW p2 p3).bel c b && !((mkW p2 p3).bel a b || (mkW p2 p3).bel b a)) = false := by decide +kernel
  have := z _ h.p2 _ h.p3 a ha b hb c hc
  rw [x, y] at this
  revert this
  cases (mkW (W.par 2) (W.par 3)).bel a b <;> cases (mkW (W.par 2) (W.par 3)).bel b a <;> simp
theorem ParOk.lub_le {a b : Nat} (c : Nat) (ha : a < 5) (hb : b < 5) (hc : c < 7) : W.bel (W.lub 8 a b) c = (W.bel a c && W.bel b c) := by
  rw [h.lub 8 a b (by omega) (by omega), h.bel (a := a) (by omega), h.bel (a := b) (by omega)]
  have l : ∀ p2, p2 < 2 → ∀ p3, p3 < 3 → ∀ a, a < 5 → ∀ b, b < 5 → (mkW p2 p3).lub 8 a b < 5 := by decide +kernel
  rw [h.bel (Nat.lt_trans (l _ h.p2 _ h.p3 a ha b hb) (by omega))]
  have z : ∀ p2, p2 < 2 → ∀ p3, p3 < 3 → ∀ a, a < 5 → ∀ b, b < 5 → ∀ c, c < 7 → (mkW p2 p3).bel ((mkW p2 p3).lub 8 a b) c = ((mkW p2 p3).bel a c && (mkW p2 p3).bel b c) := by decide +kernel
  exact z _ h.p2 _ h.p3 a ha b hb c hc
theorem ParOk.lub_lt {a b : Nat} (ha : a < 5) (hb : b < 5) (ne : a ≠ b ∨ a < 4) : W.lub 8 a b < 4 := by
  rw [h.lub 8 a b (by omega) (by omega)]
  have l : ∀ p2, p2 < 2 → ∀ p3, p3 < 3 → ∀ a, a < 5 → ∀ b, b < 5 → ((a == b && !decide (a < 4)) || decide ((mkW p2 p3).lub 8 a b < 4)) = true := by decide +kernel
  have := l _ h.p2 _ h.p3 a ha b hb
  simp only [Bool.or_eq_true, Bool.and_eq_true, Bool.not_eq_true', decide_eq_false_iff_not, beq_iff_eq, decide_eq_true_eq] at this
  omega
theorem ParOk.four {c : Nat} (hc : c < 4) : W.bel 4 c = decide (c = 0) := by
  rw [h.bel (by omega)]
  have l : ∀ p2, p2 < 2 → ∀ p3, p3 < 3 → ∀ c, c < 4 → (mkW p2 p3).bel 4 c = decide (c = 0) := by decide +kernel
  exact l _ h.p2 _ h.p3 c hc
theorem ParOk.no9 {a : Nat} (ha : a < 7) : W.bel a 9 = false := by
  rw [h.bel ha]
  have l : ∀ p2, p2 < 2 → ∀ p3, p3 < 3 → ∀ a, a < 7 → (mkW p2 p3).bel a 9 = false := by decide +kernel
  exact l _ h.p2 _ h.p3 a ha
end
/-! sub on the nine: never, the classes, the boxes of a class -/
theorem sub_ll (W : Wo) (a b : Nat) (ha : a ≠ 9) : (PT.leaf a).sub W (.leaf b) = W.bel a b := by simp [PT.sub, Wo.bel, ha]
theorem sub_9 (W : Wo) (t : PT) : (PT.leaf 9).sub W t = true := by cases t <;> simp [PT.sub]
theorem sub_lb (W : Wo) (a b : Nat) (ha : a ≠ 9) : (PT.leaf a).sub W (.un 4 (.leaf b)) = false := by simp [PT.sub, ha]
theorem sub_bl (W : Wo) (a b : Nat) : (PT.un 4 (.leaf a)).sub W (.leaf b) = (b == 0) := by simp [PT.sub]
theorem sub_bb (W : Wo) (a b : Nat) (ha : a ≠ 9) : (PT.un 4 (.leaf a)).sub W (.un 4 (.leaf b)) = W.bel a b := by simp [PT.sub, Wo.bel, ha]
def PT.uni (t : PT) : Prop := t = .leaf 9 ∨ t.simp
theorem PT.uni_cases {t : PT} (h : t.uni) : t = .leaf 9 ∨ (∃ k, k < 4 ∧ t = .leaf k) ∨ ∃ k, k < 4 ∧ t = .un 4 (.leaf k) := by
  rcases h with h | h
  · exact .inl h
  · exact .inr (PT.simp_cases h)
section
variable {W : Wo} (h : ParOk W)
include h
theorem ParOk.subTrans {a b c : PT} (ha : a.uni) (hb : b.uni) (hc : c.uni) (x : a.sub W b = true) (y : b.sub W c = true) : a.sub W c = true := by
  have zz_ := PT.uni_cases ha
  rcases zz_ with rfl | ⟨a, a4, rfl⟩ | ⟨a, a4, rfl⟩
  · exact sub_9 ..
  · have zz_ := PT.uni_cases hb
    rcases zz_ with rfl | ⟨b, b4, rfl⟩ | ⟨b, b4, rfl⟩
    · rw [sub_ll _ _ _ (by omega), h.no9 (by omega)] at x; cases x
    · have zz_ := PT.uni_cases hc
      rcases zz_ with rfl | ⟨c, c4, rfl⟩ | ⟨c, c4, rfl⟩
      · rw [sub_ll _ _ _ (by omega), h.no9 (by omega)] at y; cases y
      · rw [sub_ll _ _ _ (by omega)] at x y ⊢
        exact h.trans (by omega) (by omega) (by omega) x y
      · rw [sub_lb _ _ _ (by omega)] at y; cases y
    · rw [sub_lb _ _ _ (by omega)] at x; cases x
  · have zz_ := PT.uni_cases hb
    rcases zz_ with rfl | ⟨b, b4, rfl⟩ | ⟨b, b4, rfl⟩
    · rw [sub_bl] at x; cases x
    · rw [sub_bl] at x
      have : b = 0 := by simpa using x
      subst this
      have zz_ := PT.uni_cases hc
      rcases zz_ with rfl | ⟨c, c4, rfl⟩ | ⟨c, c4, rfl⟩
      · rw [sub_ll _ _ _ (by omega), h.no9 (by omega)] at y; cases y
      · rw [sub_ll _ _ _ (by omega)] at y
        rw [sub_bl]
        have := h.anti (by omega) (by omega) y (h.top (a := c) (by omega))
        simp [← this]
      · rw [sub_lb _ _ _ (by omega)] at y; cases y
    · have zz_ := PT.uni_cases hc
      rcases zz_ with rfl | ⟨c, c4, rfl⟩ | ⟨c, c4, rfl⟩
      · rw [sub_bl] at y; cases y
      · rw [sub_bl] at y ⊢; exact y
      · rw [sub_bb _ _ _ (by omega)] at x y ⊢
        exact h.trans (by omega) (by omega) (by omega) x y
theorem ParOk.subAnti {a b : PT} (ha : a.uni) (hb : b.uni) (x : a.sub W b = true) (y : b.sub W a = true) : a = b := by
  have zz_ := PT.uni_cases ha
  rcases zz_ with rfl | ⟨a, a4, rfl⟩ | ⟨a, a4, rfl⟩
  · have zz_ := PT.uni_cases hb
    rcases zz_ with rfl | ⟨b, b4, rfl⟩ | ⟨b, b4, rfl⟩
    · rfl
    · rw [sub_ll _ _ _ (by omega), h.no9 (by omega)] at y; cases y
    · rw [sub_bl] at y; cases y
  · have zz_ := PT.uni_cases hb
    rcases zz_ with rfl | ⟨b, b4, rfl⟩ | ⟨b, b4, rfl⟩
    · rw [sub_ll _ _ _ (by omega), h.no9 (by omega)] at x; cases x
    · rw [sub_ll _ _ _ (by omega)] at x y
      rw [h.anti (by omega) (by omega) x y]
    · rw [sub_lb _ _ _ (by omega)] at x; cases x
  · have zz_ := PT.uni_cases hb
    rcases zz_ with rfl | ⟨b, b4, rfl⟩ | ⟨b, b4, rfl⟩
    · rw [sub_bl] at x; cases x
    · rw [sub_lb _ _ _ (by omega)] at y; cases y
    · rw [sub_bb _ _ _ (by omega)] at x y
      rw [h.anti (by omega) (by omega) x y]
theorem ParOk.join_le {a b c : PT} (ha : a.simp) (hb : b.simp) (hc : c.uni) : (a.join W b).sub W c = (a.sub W c && b.sub W c) := by
  have zz_ := PT.simp_cases ha
  rcases zz_ with ⟨a, a4, rfl⟩ | ⟨a, a4, rfl⟩
  · have zz_ := PT.simp_cases hb
    rcases zz_ with ⟨b, b4, rfl⟩ | ⟨b, b4, rfl⟩
    · have l := h.lub_lt (a := b) (b := a) (by omega) (by omega) (.inr b4)
      show (PT.leaf (W.lub 8 b a)).sub W c = _
      have zz_ := PT.uni_cases hc
      rcases zz_ with rfl | ⟨c, c4, rfl⟩ | ⟨c, c4, rfl⟩
      · rw [sub_ll _ _ _ (by omega), sub_ll _ _ _ (by omega), h.no9 (by omega), h.no9 (by omega)]; rfl
      · rw [sub_ll _ _ _ (by omega), sub_ll _ _ _ (by omega), sub_ll _ _ _ (by omega), h.lub_le c (by omega) (by omega) (by omega), Bool.and_comm]
      · rw [sub_lb _ _ _ (by omega), sub_lb _ _ _ (by omega)]; rfl
    · have l := h.lub_lt (a := 4) (b := a) (by omega) (by omega) (.inl (by omega))
      show (PT.leaf (W.lub 8 4 a)).sub W c = _
      have zz_ := PT.uni_cases hc
      rcases zz_ with rfl | ⟨c, c4, rfl⟩ | ⟨c, c4, rfl⟩
      · rw [sub_ll _ _ _ (by omega), sub_ll _ _ _ (by omega), h.no9 (by omega), h.no9 (by omega)]; rfl
      · rw [sub_ll _ _ _ (by omega), sub_ll _ _ _ (by omega), sub_bl, h.lub_le c (by omega) (by omega) (by omega), Bool.and_comm, h.four c4]; rfl
      · rw [sub_lb _ _ _ (by omega), sub_lb _ _ _ (by omega)]; rfl
  · have zz_ := PT.simp_cases hb
    rcases zz_ with ⟨b, b4, rfl⟩ | ⟨b, b4, rfl⟩
    · have l := h.lub_lt (a := b) (b := 4) (by omega) (by omega) (.inl (by omega))
      show (PT.leaf (W.lub 8 b 4)).sub W c = _
      have zz_ := PT.uni_cases hc
      rcases zz_ with rfl | ⟨c, c4, rfl⟩ | ⟨c, c4, rfl⟩
      · rw [sub_ll _ _ _ (by omega), h.no9 (by omega), sub_bl]; rfl
      · rw [sub_ll _ _ _ (by omega), sub_ll _ _ _ (by omega), sub_bl, h.lub_le c (by omega) (by omega) (by omega), Bool.and_comm, h.four c4]; rfl
      · rw [sub_lb _ _ _ (by omega), sub_lb _ _ _ (by omega), Bool.and_false]
    · have l := h.lub_lt (a := a) (b := b) (by omega) (by omega) (.inr a4)
      show (PT.un 4 (.leaf (W.lub 8 a b))).sub W c = _
      have zz_ := PT.uni_cases hc
      rcases zz_ with rfl | ⟨c, c4, rfl⟩ | ⟨c, c4, rfl⟩
      · rw [sub_bl, sub_bl, sub_bl]; rfl
      · rw [sub_bl, sub_bl, sub_bl, Bool.and_self]
      · rw [sub_bb _ _ _ (by omega), sub_bb _ _ _ (by omega), sub_bb _ _ _ (by omega), h.lub_le c (by omega) (by omega) (by omega)]
theorem ParOk.simp_join {a b : PT} (ha : a.simp) (hb : b.simp) : (a.join W b).simp := by
  have zz_ := PT.simp_cases ha
  rcases zz_ with ⟨a, a4, rfl⟩ | ⟨a, a4, rfl⟩
  · have zz_ := PT.simp_cases hb
    rcases zz_ with ⟨b, b4, rfl⟩ | ⟨b, b4, rfl⟩
    · exact h.lub_lt (a := b) (b := a) (by omega) (by omega) (.inr b4)
    · exact h.lub_lt (a := 4) (b := a) (by omega) (by omega) (.inl (by omega))
  · have zz_ := PT.simp_cases hb
    rcases zz_ with ⟨b, b4, rfl⟩ | ⟨b, b4, rfl⟩
    · exact h.lub_lt (a := b) (b := 4) (by omega) (by omega) (.inl (by omega))
    · exact ⟨rfl, h.lub_lt (a := a) (b := b) (by omega) (by omega) (.inr a4)⟩
theorem ParOk.joins_le {c : PT} (hc : c.uni) : ∀ (ls : List PT) (a : PT), a.simp → (∀ l ∈ ls, l.simp) → (ls.foldl (PT.join W) a).sub W c = (a.sub W c && ls.all fun l => l.sub W c)
  | [], a, _, _ => by simp
  | l :: ls, a, ha, hl => by
    rw [List.foldl_cons, ParOk.joins_le hc ls _ (h.simp_join ha (hl l (List.mem_cons_self ..))) (fun x hx => hl x (List.mem_cons_of_mem _ hx)), h.join_le ha (hl l (List.mem_cons_self ..)) hc, List.all_cons, Bool.and_assoc]
theorem ParOk.simp_joins : ∀ (ls : List PT) (a : PT), a.simp → (∀ l ∈ ls, l.simp) → (ls.foldl (PT.join W) a).simp
  | [], a, ha, _ => ha
  | l :: ls, a, ha, hl => ParOk.simp_joins ls _ (h.simp_join ha (hl l (List.mem_cons_self ..))) fun x hx => hl x (List.mem_cons_of_mem _ hx)
theorem ParOk.joins_perm {a b : PT} {ls ls' : List PT} (p : (a :: ls).Perm (b :: ls')) (s : ∀ l ∈ a :: ls, l.simp) : ls.foldl (PT.join W) a = ls'.foldl (PT.join W) b := by
  have s' : ∀ l ∈ b :: ls', l.simp := fun l hl => s l (p.mem_iff.mpr hl)
  have e : ∀ c : PT, c.uni → (ls.foldl (PT.join W) a).sub W c = (ls'.foldl (PT.join W) b).sub W c := fun c hc => by
    rw [h.joins_le hc ls a (s a (List.mem_cons_self ..)) (fun x hx => s x (List.mem_cons_of_mem _ hx)), h.joins_le hc ls' b (s' b (List.mem_cons_self ..)) (fun x hx => s' x (List.mem_cons_of_mem _ hx))]
    have := p.all_eq (f := fun l => l.sub W c)
    simpa using this
  have x := h.simp_joins ls a (s a (List.mem_cons_self ..)) (fun x hx => s x (List.mem_cons_of_mem _ hx))
  have x' := h.simp_joins ls' b (s' b (List.mem_cons_self ..)) (fun x hx => s' x (List.mem_cons_of_mem _ hx))
  refine h.subAnti (.inr x) (.inr x') ?_ ?_
  · rw [e _ (.inr x')]; exact PT.sub_refl ..
  · rw [← e _ (.inr x)]; exact PT.sub_refl ..
theorem ParOk.meet_ge {a b c : PT} (ha : a.ty) (hb : b.ty) (da : a.dep ≤ 0) (db : b.dep ≤ 0) (hc : c.uni) : c.sub W (a.meet W b) = (c.sub W a && c.sub W b) := by
  have ua : a.uni := by
    have zz_ := PT.z_cases ha da
    rcases zz_ with rfl | ⟨k, k4, rfl⟩
    · exact .inl rfl
    · exact .inr k4
  have ub : b.uni := by
    have zz_ := PT.z_cases hb db
    rcases zz_ with rfl | ⟨k, k4, rfl⟩
    · exact .inl rfl
    · exact .inr k4
  unfold PT.meet
  split
  · rename_i x
    cases y : c.sub W a with
    | true => rw [h.subTrans hc ua ub y x]; rfl
    | false => rfl
  · rename_i x
    split
    · rename_i y
      cases z : c.sub W b with
      | true => rw [h.subTrans hc ub ua z y]; rfl
      | false => rw [Bool.and_false]
    · rename_i y
      have zz_ := PT.z_cases ha da
      rcases zz_ with rfl | ⟨a, a4, rfl⟩
      · rw [sub_9] at x; exact absurd rfl x
      · have zz_ := PT.z_cases hb db
        rcases zz_ with rfl | ⟨b, b4, rfl⟩
        · rw [sub_9] at y; exact absurd rfl y
        · rw [sub_ll _ _ _ (by omega)] at x y
          have zz_ := PT.uni_cases hc
          rcases zz_ with rfl | ⟨c, c4, rfl⟩ | ⟨c, c4, rfl⟩
          · rw [sub_9, sub_9, sub_9]; rfl
          · rw [sub_ll _ _ _ (by omega), sub_ll _ _ _ (by omega), sub_ll _ _ _ (by omega), h.no9 (by omega)]
            cases p : W.bel c a with
            | false => rfl
            | true =>
              cases q : W.bel c b with
              | false => rfl
              | true => rcases h.line (by omega) (by omega) (by omega) p q with z | z
                        · exact absurd z x
                        · exact absurd z y
          · rw [sub_bl, sub_bl, sub_bl]
            cases p : (a == 0) with
            | false => rfl
            | true =>
              have : a = 0 := by simpa using p
              subst this
              exact absurd (h.top (by omega)) y
end
end Mine

/-! C9 -/
namespace Mine
open PySem PySem.W PySem.W.X
/-- the variables of a tree, as the program finds them -/
def PT.tvl : PT → List Nat
  | .leaf c => if c < 7 then [] else [c - 7]
  | .un _ t => t.tvl
  | .two t u => t.tvl ++ u.tvl
theorem tvl_var (j : Nat) : (PT.leaf (7 + j)).tvl = [j] := by
  show (if 7 + j < 7 then [] else [7 + j - 7]) = [j]
  rw [if_neg (by omega), show 7 + j - 7 = j by omega]
theorem tvl_cls {k : Nat} (h : k < 7) : (PT.leaf k).tvl = [] := if_pos h
theorem PT.tr_cases {t : PT} (h : t.tr) : (∃ k, k < 4 ∧ t = .leaf k) ∨ (∃ j, j < 2 ∧ t = .leaf (7 + j)) ∨ (∃ c s, (c = 4 ∨ c = 5) ∧ s.tr ∧ t = .un c s) ∨ ∃ s v, s.tr ∧ v.tr ∧ t = .two s v := by
  match t, h with
  | .leaf c, h =>
    rcases h with h | h | h
    · exact .inl ⟨c, h, rfl⟩
    · exact .inr (.inl ⟨0, by omega, by rw [h]⟩)
    · exact .inr (.inl ⟨1, by omega, by rw [h]⟩)
  | .un c s, h => exact .inr (.inr (.inl ⟨c, s, h.1, h.2, rfl⟩))
  | .two s v, h => exact .inr (.inr (.inr ⟨s, v, h.1, h.2, rfl⟩))
/-- a tree's node, as an object: a variable or an Instance -/
theorem TyIs.trFace {g : Gm} {W : Wo} {a : Addr} {t : PT} (h : TyIs g W a t) (ht : t.tr) :
    (∃ j, j < 2 ∧ t = .leaf (7 + j) ∧ a = W.V j) ∨ (∃ d tp vs h1 t1 h2 t2 n, t.inst = true ∧ g a = some (ins 366 d) ∧ g d = some (dct [key h1 t1 "type" (.ref (W.I t.hd)), key h2 t2 "args" (.ref tp)] n) ∧ g tp = some (tupO vs)) := by
  have zz_ := PT.tr_cases ht
  rcases zz_ with ⟨k, k4, rfl⟩ | ⟨j, j2, rfl⟩ | ⟨c, s, hc, ts, rfl⟩ | ⟨s, v, ts, tv, rfl⟩
  · have zz_ := h.inst_inv (by simpa [PT.inst] using k4)
    obtain ⟨d, tp, vs, h1, t1, h2, t2, n, e1, e2, e3, _⟩ := zz_
    exact .inr ⟨d, tp, vs, h1, t1, h2, t2, n, by simpa [PT.inst] using k4, e1, e2, e3⟩
  · have := h.var_inv (by omega)
    exact .inl ⟨j, j2, rfl, by rw [this]; congr 1; omega⟩
  · have zz_ := h.inst_inv rfl
    obtain ⟨d, tp, vs, h1, t1, h2, t2, n, e1, e2, e3, _⟩ := zz_
    exact .inr ⟨d, tp, vs, h1, t1, h2, t2, n, rfl, e1, e2, e3⟩
  · have zz_ := h.inst_inv rfl
    obtain ⟨d, tp, vs, h1, t1, h2, t2, n, e1, e2, e3, _⟩ := zz_
    exact .inr ⟨d, tp, vs, h1, t1, h2, t2, n, rfl, e1, e2, e3⟩
def ExIs (g : Gm) (v : Addr) : Prop := ∃ d n, g v = some (ins 543 d) ∧ g d = some (dct [] n)
theorem ExIs.mono {g g' : Gm} {J : Addr} (l : Le g g') (h : ExIs g J) : ExIs g' J := let ⟨d, n, a, b⟩ := h; ⟨d, n, l _ _ a, l _ _ b⟩
def vrefs (W : Wo) (l : List Nat) : List Value := l.map fun j => .ref (W.V j)
def tvSpec (y : Wd) (W : Wo) (n : Nat) : Prop := ∀ (t : PT) (g0 : Gm) (d u : Nat) (v a : Addr), t.tr → t.inst = true → t.dep ≤ n → t.tvl.length ≤ 100 → KIn (tops y) g0 → WoIs g0 W → d + (4 * n + 20) < recursionLimit → u + (40 * n + 150) < cLine → TyIs g0 W a t → ExIs g0 v →
    Pu (cx y) g0 d u (.call (.ref 533) ⟨[.ref v, .ref a], []⟩) (fun g' res => ∃ l vs m, res = .ok (.ret (.ref l)) ∧ g' l = some (lstO vs m) ∧ vs = vrefs W t.tvl ∧ vs.length ≤ 100)
open Lean Elab Tactic in
def walkT (specs : List Name := []) (fuel : Nat := 3000) : TacticM Unit :=
  walkTac specs (do evalTactic (← `(tactic| first | assumption | rfl | omega | (simp only [List.length_append, List.length_nil, List.length_cons, List.nil_append]; omega) | exact ⟨_, _, by assumption, by assumption⟩))) fuel
theorem tv_leaf (y : Wd) (W : Wo) (k : Nat) (g0 : Gm) (d u : Nat) (v a : Addr) (k4 : k < 4) (hK0 : KIn (tops y) g0) (hW : WoIs g0 W) (hd : d + 20 < recursionLimit) (hu : u + 150 < cLine) (ha : TyIs g0 W a (.leaf k)) (hv : ExIs g0 v) :
    Pu (cx y) g0 d u (.call (.ref 533) ⟨[.ref v, .ref a], []⟩) (fun g' res => ∃ l vs m, res = .ok (.ret (.ref l)) ∧ g' l = some (lstO vs m) ∧ vs = vrefs W (PT.leaf k).tvl ∧ vs.length ≤ 100) := by
  have zz_ := ha.cls_inv k4
  obtain ⟨_, _, _, _, _, _, _, f7, f8, f9⟩ := zz_
  obtain ⟨_, _, f1, f2⟩ := hv
  refine pu_of fun F ρ tk R hk K => ?_
  run_tac walkT
  all_goals exact K _ _ _ _ _ hle ⟨_, _, _, rfl, by assumption, by rw [tvl_cls (by omega)]; rfl, by simp⟩
theorem tv_un (y : Wd) (W : Wo) (n : Nat) (ih : tvSpec y W n) (c : Nat) (t : PT) (g0 : Gm) (d u : Nat) (v a : Addr) (ht : (PT.un c t).tr) (dt : t.dep ≤ n) (hl : t.tvl.length ≤ 100) (hK0 : KIn (tops y) g0) (hW : WoIs g0 W) (hd0 : d + (4 * (n + 1) + 20) < recursionLimit) (hu0 : u + (40 * (n + 1) + 150) < cLine) (ha : TyIs g0 W a (.un c t)) (hv : ExIs g0 v) :
    Pu (cx y) g0 d u (.call (.ref 533) ⟨[.ref v, .ref a], []⟩) (fun g' res => ∃ l vs m, res = .ok (.ret (.ref l)) ∧ g' l = some (lstO vs m) ∧ vs = vrefs W (PT.un c t).tvl ∧ vs.length ≤ 100) := by
  unfold tvSpec at ih
  have hd : d + 24 < recursionLimit := by omega
  have hu : u + 190 < cLine := by omega
  have zz_ := ha.un_inv
  obtain ⟨_, _, _, x, _, _, _, _, _, f1, f2, f3, h0⟩ := zz_
  have hv' := hv
  obtain ⟨_, _, f4, f5⟩ := hv'
  have tt := ht.2
  have zz_ := h0.trFace tt
  rcases zz_ with ⟨j, j2, rfl, rfl⟩ | ⟨_, _, _, _, _, _, _, _, hi, f6, f7, f8⟩
  · have zz_ := (hW.vars j j2).1
    cases zz_ with | mk v1 v2 v3 =>
    refine pu_of fun F ρ tk R hk K => ?_
    run_tac walkT
    all_goals exact K _ _ _ _ _ hle ⟨_, _, _, rfl, by assumption, by rw [PT.tvl, tvl_var]; rfl, by simp⟩
  · refine pu_of fun F ρ tk R hk K => ?_
    run_tac walkT [``list_extend_ok]
    all_goals exact K _ _ _ _ _ hle ⟨_, _, _, rfl, by assumption, by rw [PT.tvl]; assumption, by assumption⟩
theorem tv_two (y : Wd) (W : Wo) (n : Nat) (ih : tvSpec y W n) (t s : PT) (g0 : Gm) (d u : Nat) (v a : Addr) (ht : (PT.two t s).tr) (dt : t.dep ≤ n) (ds : s.dep ≤ n) (hl : t.tvl.length + s.tvl.length ≤ 100) (hK0 : KIn (tops y) g0) (hW : WoIs g0 W) (hd0 : d + (4 * (n + 1) + 20) < recursionLimit) (hu0 : u + (40 * (n + 1) + 150) < cLine) (ha : TyIs g0 W a (.two t s)) (hv : ExIs g0 v) :
    Pu (cx y) g0 d u (.call (.ref 533) ⟨[.ref v, .ref a], []⟩) (fun g' res => ∃ l vs m, res = .ok (.ret (.ref l)) ∧ g' l = some (lstO vs m) ∧ vs = vrefs W (PT.two t s).tvl ∧ vs.length ≤ 100) := by
  unfold tvSpec at ih
  have hd : d + 24 < recursionLimit := by omega
  have hu : u + 190 < cLine := by omega
  have zz_ := ha.two_inv
  obtain ⟨_, _, x, z, _, _, _, _, _, f1, f2, f3, h0, h1⟩ := zz_
  have hv' := hv
  obtain ⟨_, _, f4, f5⟩ := hv'
  have tt := ht.1
  have ts := ht.2
  have hl1 : t.tvl.length ≤ 100 := by omega
  have hl2 : s.tvl.length ≤ 100 := by omega
  have fin : ∀ xs ys : List Value, xs = vrefs W t.tvl → ys = vrefs W s.tvl → xs ++ ys = vrefs W (PT.two t s).tvl ∧ (xs ++ ys).length ≤ 100 := fun xs ys e e' => by
    rw [e, e', PT.tvl]
    exact ⟨by simp [vrefs], by simp [vrefs]; omega⟩
  rcases h0.trFace tt with ⟨j, j2, rfl, rfl⟩ | ⟨_, _, _, _, _, _, _, _, hi, f6, f7, f8⟩ <;>
  rcases h1.trFace ts with ⟨j', j2', rfl, rfl⟩ | ⟨_, _, _, _, _, _, _, _, hi', f6', f7', f8'⟩
  · have zz_ := (hW.vars j j2).1
    cases zz_ with | mk v1 v2 v3 =>
    have zz_ := (hW.vars j' j2').1
    cases zz_ with | mk v1' v2' v3' =>
    refine pu_of fun F ρ tk R hk K => ?_
    run_tac walkT
    all_goals (obtain ⟨p, q⟩ := fin [.ref (W.V j)] [.ref (W.V j')] (by rw [tvl_var]; rfl) (by rw [tvl_var]; rfl); exact K _ _ _ _ _ hle ⟨_, _, _, rfl, by assumption, p, q⟩)
  · have zz_ := (hW.vars j j2).1
    cases zz_ with | mk v1 v2 v3 =>
    refine pu_of fun F ρ tk R hk K => ?_
    run_tac walkT [``list_extend_ok]
    all_goals (obtain ⟨p, q⟩ := fin [.ref (W.V j)] _ (by rw [tvl_var]; rfl) (by assumption); exact K _ _ _ _ _ hle ⟨_, _, _, rfl, by assumption, p, q⟩)
  · have zz_ := (hW.vars j' j2').1
    cases zz_ with | mk v1' v2' v3' =>
    refine pu_of fun F ρ tk R hk K => ?_
    run_tac walkT [``list_extend_ok]
    all_goals (obtain ⟨p, q⟩ := fin _ [.ref (W.V j')] (by assumption) (by rw [tvl_var]; rfl); exact K _ _ _ _ _ hle ⟨_, _, _, rfl, by assumption, p, q⟩)
  · refine pu_of fun F ρ tk R hk K => ?_
    run_tac walkT [``list_extend_ok]
    all_goals (obtain ⟨p, q⟩ := fin _ _ (by assumption) (by assumption); exact K _ _ _ _ _ hle ⟨_, _, _, rfl, by assumption, p, q⟩)
theorem tv_ok (y : Wd) (W : Wo) : ∀ n, tvSpec y W n := by
  intro n
  induction n with
  | zero =>
    intro t g0 d u v a ht hi dt hl hK0 hW hd0 hu0 ha hv
    have zz_ := PT.tr_cases ht
    rcases zz_ with ⟨k, k4, rfl⟩ | ⟨j, j2, rfl⟩ | ⟨c, s, hc, ts, rfl⟩ | ⟨s, w, ts, tw, rfl⟩
    · exact tv_leaf y W k g0 d u v a k4 hK0 hW (by omega) (by omega) ha hv
    · simp [PT.inst] at hi; omega
    · simp [PT.dep] at dt
    · simp [PT.dep] at dt
  | succ n ih =>
    intro t g0 d u v a ht hi dt hl hK0 hW hd0 hu0 ha hv
    have zz_ := PT.tr_cases ht
    rcases zz_ with ⟨k, k4, rfl⟩ | ⟨j, j2, rfl⟩ | ⟨c, s, hc, ts, rfl⟩ | ⟨s, w, ts, tw, rfl⟩
    · exact tv_leaf y W k g0 d u v a k4 hK0 hW (by omega) (by omega) ha hv
    · simp [PT.inst] at hi; omega
    · simp only [PT.dep] at dt
      exact tv_un y W n ih c s g0 d u v a ht (by omega) (by rw [PT.tvl] at hl; exact hl) hK0 hW hd0 hu0 ha hv
    · simp only [PT.dep] at dt
      exact tv_two y W n ih s w g0 d u v a ht (by omega) (by omega) (by rw [PT.tvl, List.length_append] at hl; exact hl) hK0 hW hd0 hu0 ha hv
end Mine

/-! C10 -/
namespace Mine
open PySem PySem.W PySem.W.X
open Lean Elab Tactic in
def walkV (specs : List Name := []) (fuel : Nat := 3000) : TacticM Unit :=
  walkTac specs (do evalTactic (← `(tactic| first | assumption | rfl | omega | exact ⟨_, _, by assumption, by assumption⟩))) fuel
theorem tv_no (y : Wd) (W : Wo) (t : PT) (g0 : Gm) (d u : Nat) (v a : Addr) (ht : t.tr) (hi : t.inst = true) (dt : t.dep ≤ 3) (hz : t.tvl = []) (hK0 : KIn (tops y) g0) (hW : WoIs g0 W) (hd : d + 32 < recursionLimit) (hu : u + 270 < cLine) (ha : TyIs g0 W a t) (hv : ExIs g0 v) :
    Pu (cx y) g0 d u (.call (.ref 533) ⟨[.ref v, .ref a], []⟩) (fun g' res => ∃ l m, res = .ok (.ret (.ref l)) ∧ g' l = some (lstO [] m)) := by
  refine (tv_ok y W 3 t g0 d u v a ht hi dt (by rw [hz]; simp) hK0 hW (by omega) (by omega) ha hv).mono ?_
  rintro g' r _ ⟨l, vs, m, h, e, q, _⟩
  rw [hz] at q
  rw [q] at e
  exact ⟨l, m, h, e⟩
theorem tv_yes (y : Wd) (W : Wo) (t : PT) (g0 : Gm) (d u : Nat) (v a : Addr) (ht : t.tr) (hi : t.inst = true) (dt : t.dep ≤ 3) (hl : t.tvl.length ≤ 100) (hz : t.tvl ≠ []) (hK0 : KIn (tops y) g0) (hW : WoIs g0 W) (hd : d + 32 < recursionLimit) (hu : u + 270 < cLine) (ha : TyIs g0 W a t) (hv : ExIs g0 v) :
    Pu (cx y) g0 d u (.call (.ref 533) ⟨[.ref v, .ref a], []⟩) (fun g' res => ∃ l x vs m, res = .ok (.ret (.ref l)) ∧ g' l = some (lstO (x :: vs) m)) := by
  refine (tv_ok y W 3 t g0 d u v a ht hi dt hl hK0 hW (by omega) (by omega) ha hv).mono ?_
  rintro g' r _ ⟨l, vs, m, h, e, q, _⟩
  cases vs with
  | nil => exact (hz (List.map_eq_nil_iff.mp q.symm)).elim
  | cons x vs => exact ⟨l, x, vs, m, h, e⟩
theorem has_tv_no (y : Wd) (W : Wo) (t : PT) (g0 : Gm) (d u : Nat) (a : Addr) (ht : t.tr) (hi : t.inst = true) (dt : t.dep ≤ 3) (hz : t.tvl = []) (hK0 : KIn (tops y) g0) (hW : WoIs g0 W) (hd : d + 40 < recursionLimit) (hu : u + 400 < cLine) (ha : TyIs g0 W a t) :
    Pu (cx y) g0 d u (.call (.ref 561) ⟨[.ref a], []⟩) (fun g' res => res = .ok (.ret (.bool false))) := by
  have zz_ := ha.inst_inv hi
  obtain ⟨_, _, _, _, _, _, _, _, f1, f2, f3, f4, _⟩ := zz_
  refine pu_of fun F ρ tk R hk K => ?_
  run_tac walkV [``tv_no]
  all_goals exact K _ _ _ _ _ hle rfl
theorem has_tv_yes (y : Wd) (W : Wo) (t : PT) (g0 : Gm) (d u : Nat) (a : Addr) (ht : t.tr) (hi : t.inst = true) (dt : t.dep ≤ 3) (hl : t.tvl.length ≤ 100) (hz : t.tvl ≠ []) (hK0 : KIn (tops y) g0) (hW : WoIs g0 W) (hd : d + 40 < recursionLimit) (hu : u + 400 < cLine) (ha : TyIs g0 W a t) :
    Pu (cx y) g0 d u (.call (.ref 561) ⟨[.ref a], []⟩) (fun g' res => res = .ok (.ret (.bool true))) := by
  have zz_ := ha.inst_inv hi
  obtain ⟨_, _, _, _, _, _, _, _, f1, f2, f3, f4, _⟩ := zz_
  refine pu_of fun F ρ tk R hk K => ?_
  run_tac walkV [``tv_yes]
  all_goals exact K _ _ _ _ _ hle rfl
end Mine

/-! C11 -/
namespace Mine
open PySem PySem.W PySem.W.X
/-- what is told of a tree and its filling: variable, direction, target -/
def PT.cons : PT → PT → Bool → List (Nat × Bool × PT)
  | .leaf c, a, up => if c < 7 then [] else [(c - 7, up, a)]
  | .un c t, .un _ a, up => t.cons a (if c = 4 then up else !up)
  | .two t u, .two a b, up => t.cons a up ++ u.cons b (!up)
  | _, _, _ => []
/-- a tree and its filling -/
def PT.fil : PT → PT → Prop
  | .leaf c, a => if c < 7 then ∃ k, k < 4 ∧ a = .leaf k else a.simp
  | .un c t, .un k a => c = k ∧ t.fil a
  | .two t u, .two a b => t.fil a ∧ u.fil b
  | _, _ => False
theorem PT.cons_nil : ∀ (t a : PT) (up : Bool), t.tvl = [] → t.cons a up = []
  | .leaf c, a, up, h => by
    by_cases q : c < 7
    · simp [PT.cons, q]
    · simp [PT.tvl, q] at h
  | .un c t, .un k a, up, h => PT.cons_nil t a _ (by rw [PT.tvl] at h; exact h)
  | .un c t, .leaf _, up, h => rfl
  | .un c t, .two _ _, up, h => rfl
  | .two t u, .two a b, up, h => by
    rw [PT.tvl, List.append_eq_nil_iff] at h
    rw [PT.cons, PT.cons_nil t a _ h.1, PT.cons_nil u b _ h.2]; rfl
  | .two t u, .leaf _, up, h => rfl
  | .two t u, .un _ _, up, h => rfl
def dirI (up : Bool) : Int := if up then 1 else 0
inductive CoIs : Gm → Wo → Value → Nat × Bool × PT → Prop where
  | mk {g : Gm} {W : Wo} {a d b : Addr} {j : Nat} {up : Bool} {t : PT} {h1 h2 h3 h4 : Int} {t1 t2 t3 t4 t5 n : Nat} : j < 2 → g a = some (ins 38 d) →
      g d = some (dct [key h1 t1 "type_var" (.ref (W.vi j)), key h2 t2 "op" (.int (dirI up) t5), key h3 t3 "target" (.ref b), key h4 t4 "origin_type_var" (.ref (W.V j))] n) → TyIs g W b t → t.simp → CoIs g W (.ref a) (j, up, t)
theorem CoIs.mono {g g' : Gm} {W : Wo} {v : Value} {c : Nat × Bool × PT} (l : Le g g') (h : CoIs g W v c) : CoIs g' W v c := by
  cases h with | mk j a b c s => exact .mk j (l _ _ a) (l _ _ b) (c.mono l) s
inductive CosAre : Gm → Wo → List Value → List (Nat × Bool × PT) → Prop where
  | nil {g : Gm} {W : Wo} : CosAre g W [] []
  | cons {g : Gm} {W : Wo} {v : Value} {vs : List Value} {c : Nat × Bool × PT} {cs : List (Nat × Bool × PT)} : CoIs g W v c → CosAre g W vs cs → CosAre g W (v :: vs) (c :: cs)
theorem CosAre.mono {g g' : Gm} {W : Wo} {vs : List Value} {cs : List (Nat × Bool × PT)} (l : Le g g') (h : CosAre g W vs cs) : CosAre g' W vs cs := by
  induction h with
  | nil => exact .nil
  | cons a _ ih => exact .cons (a.mono l) ih
theorem CosAre.append {g : Gm} {W : Wo} {vs vs' : List Value} {cs cs' : List (Nat × Bool × PT)} (h : CosAre g W vs cs) (h' : CosAre g W vs' cs') : CosAre g W (vs ++ vs') (cs ++ cs') := by
  induction h with
  | nil => exact h'
  | cons a _ ih => exact .cons a ih
theorem CosAre.len {g : Gm} {W : Wo} {vs : List Value} {cs : List (Nat × Bool × PT)} (h : CosAre g W vs cs) : vs.length = cs.length := by
  induction h with
  | nil => rfl
  | cons _ _ ih => simp [ih]
def infSpec (y : Wd) (W : Wo) (n : Nat) (up : Bool) (z : Int) : Prop := ∀ (t ar : PT) (g0 : Gm) (d u : Nat) (a b kk : Addr), t.tr → ar.ty → t.fil ar → t.dep ≤ n → n ≤ 3 → t.tvl.length ≤ 20 → KIn (tops y) g0 → WoIs g0 W → d + (8 * n + 60) < recursionLimit → u + (60 * n + 500) < cLine → TyIs g0 W a t → TyIs g0 W b ar →
    Pu (cx y) g0 d u (.call (.ref 1051) ⟨[.ref a, .ref b, .int z kk], []⟩) (fun g' res => ∃ l vs m, res = .ok (.ret (.ref l)) ∧ g' l = some (lstO vs m) ∧ CosAre g' W vs (t.cons ar up) ∧ vs.length ≤ t.tvl.length)
open Lean Elab Tactic in
def walkC (specs : List Name := []) (fuel : Nat := 3000) : TacticM Unit :=
  walkTac specs (do evalTactic (← `(tactic| first | assumption | rfl | omega | (simp only [List.length_append, List.length_nil, List.length_cons, List.nil_append]; omega) | exact ⟨_, _, by assumption, by assumption⟩))) fuel
theorem inf_no (y : Wd) (W : Wo) (up : Bool) (z : Int) (t ar : PT) (g0 : Gm) (d u : Nat) (a b kk : Addr) (ht : t.tr) (hi : t.inst = true) (dt : t.dep ≤ 3) (hz : t.tvl = []) (hK0 : KIn (tops y) g0) (hW : WoIs g0 W) (hd : d + 60 < recursionLimit) (hu : u + 500 < cLine) (ha : TyIs g0 W a t) :
    Pu (cx y) g0 d u (.call (.ref 1051) ⟨[.ref a, .ref b, .int z kk], []⟩) (fun g' res => ∃ l vs m, res = .ok (.ret (.ref l)) ∧ g' l = some (lstO vs m) ∧ CosAre g' W vs (t.cons ar up) ∧ vs.length ≤ t.tvl.length) := by
  rw [PT.cons_nil _ _ _ hz]
  have zz_ := ha.inst_inv hi
  obtain ⟨_, _, _, _, _, _, _, _, f1, f2, f3, f4, _⟩ := zz_
  refine pu_of fun F ρ tk R hk K => ?_
  run_tac walkC [``has_tv_no]
  all_goals exact K _ _ _ _ _ hle ⟨_, _, _, rfl, by assumption, .nil, by simp⟩
theorem inf_var (y : Wd) (W : Wo) (up : Bool) (j : Nat) (ar : PT) (g0 : Gm) (d u : Nat) (a b kk : Addr) (j2 : j < 2) (hs : ar.simp) (hK0 : KIn (tops y) g0) (hW : WoIs g0 W) (hd : d + 60 < recursionLimit) (hu : u + 500 < cLine) (ha : TyIs g0 W a (.leaf (7 + j))) (hb : TyIs g0 W b ar) :
    Pu (cx y) g0 d u (.call (.ref 1051) ⟨[.ref a, .ref b, .int (dirI up) kk], []⟩) (fun g' res => ∃ l vs m, res = .ok (.ret (.ref l)) ∧ g' l = some (lstO vs m) ∧ CosAre g' W vs ((PT.leaf (7 + j)).cons ar up) ∧ vs.length ≤ (PT.leaf (7 + j)).tvl.length) := by
  have e : a = W.V j := by rw [ha.var_inv (by omega)]; congr 1; omega
  subst e
  rw [tvl_var]
  have q : (PT.leaf (7 + j)).cons ar up = [(j, up, ar)] := by
    show (if 7 + j < 7 then [] else [(7 + j - 7, up, ar)]) = _
    rw [if_neg (by omega), show 7 + j - 7 = j by omega]
  rw [q]
  have zz_ := hb.inst_inv (PT.simp_inst hs)
  obtain ⟨_, _, _, _, _, _, _, _, f1, f2, f3, f4, _⟩ := zz_
  have zz_ := (hW.vars j j2).1
  cases zz_ with | mk v1 v2 v3 =>
  refine pu_of fun F ρ tk R hk K => ?_
  run_tac walkC
  all_goals exact K _ _ _ _ _ hle ⟨_, _, _, rfl, by assumption, .cons (.mk j2 (by assumption) (by assumption) (by assumption) hs) .nil, by simp⟩
end Mine

/-! C12 -/
namespace Mine
open PySem PySem.W PySem.W.X
theorem inf_un (y : Wd) (W : Wo) (n : Nat) (ihU : infSpec y W n true 1) (ihD : infSpec y W n false 0) (c : Nat) (t ar : PT) (up : Bool) (z : Int) (hz : z = if up then 1 else 0) (g0 : Gm) (d u : Nat) (a b kk : Addr) (ht : (PT.un c t).tr) (hr : (PT.un c ar).ty) (hf : t.fil ar) (dt : t.dep ≤ n) (n3 : n + 1 ≤ 3) (hl : t.tvl.length ≤ 20) (hK0 : KIn (tops y) g0) (hW : WoIs g0 W) (hd0 : d + (8 * (n + 1) + 60) < recursionLimit) (hu0 : u + (60 * (n + 1) + 500) < cLine) (ha : TyIs g0 W a (.un c t)) (hb : TyIs g0 W b (.un c ar)) :
    Pu (cx y) g0 d u (.call (.ref 1051) ⟨[.ref a, .ref b, .int z kk], []⟩) (fun g' res => ∃ l vs m, res = .ok (.ret (.ref l)) ∧ g' l = some (lstO vs m) ∧ CosAre g' W vs ((PT.un c t).cons (.un c ar) up) ∧ vs.length ≤ (PT.un c t).tvl.length) := by
  have hi : (PT.un c t).inst = true := rfl
  by_cases tv : (PT.un c t).tvl = []
  · exact inf_no y W up z (.un c t) (.un c ar) g0 d u a b kk ht hi (by simp only [PT.dep]; omega) tv hK0 hW (by omega) (by omega) ha
  have hd : d + 68 < recursionLimit := by omega
  have hu : u + 560 < cLine := by omega
  unfold infSpec at ihU ihD
  have dt3 : (PT.un c t).dep ≤ 3 := by simp only [PT.dep]; omega
  have hl' : (PT.un c t).tvl.length ≤ 100 := by rw [PT.tvl]; omega
  have n3' : n ≤ 3 := by omega
  have hc : (W.mro c).contains c = true := by obtain ⟨r, e⟩ := mro_cons W c; rw [e]; simp
  have zz_ := ha.un_inv
  obtain ⟨_, _, _, x, _, _, _, _, _, f1, f2, f3, h0⟩ := zz_
  have zz_ := hb.un_inv
  obtain ⟨_, _, _, x', _, _, _, _, _, f4, f5, f6, h1⟩ := zz_
  have tt := ht.2
  have tr := hr.2
  have zz_ := hW.rise
  obtain ⟨_, v⟩ := zz_
  have zz_ := hW.fall
  obtain ⟨_, v'⟩ := zz_
  cases v with | mk v1 v2 v3 =>
  cases v' with | mk v1' v2' v3' =>
  have e0 : ∀ up, (PT.un c t).cons (.un c ar) up = t.cons ar (if c = 4 then up else !up) := fun _ => by rw [PT.cons]
  have e1 : (PT.un c t).tvl = t.tvl := by rw [PT.tvl]
  rw [e0 up, e1]
  have zz_ := ht.1
  rcases zz_ with rfl | rfl
  · have zz_ := (hW.info 4 (by omega)).inv
    obtain ⟨dd, dn, ddd, tl, tv, bl, ml, _, _, _, _, _, _, _, _, _, _, _, _, _, _, _, _, _, _, _, names, bs, e1, e2, e3, e4, e5, e6, q, e7, b0, b1, e8⟩ := zz_
    simp only [tvs] at e5
    rw [if_pos rfl]
    cases up <;> subst hz
    all_goals
      simp only [if_true, if_false, Bool.false_eq_true, reduceIte]
      refine pu_of fun F ρ tk R hk K => ?_
      run_tac walkC [``has_tv_yes, ``has_base_yes, ``list_extend_ok]
      all_goals exact K _ _ _ _ _ hle ⟨_, _, _, rfl, by assumption, by assumption, by assumption⟩
  · have zz_ := (hW.info 5 (by omega)).inv
    obtain ⟨dd, dn, ddd, tl, tv, bl, ml, _, _, _, _, _, _, _, _, _, _, _, _, _, _, _, _, _, _, _, names, bs, e1, e2, e3, e4, e5, e6, q, e7, b0, b1, e8⟩ := zz_
    simp only [tvs] at e5
    rw [if_neg (by decide)]
    cases up <;> subst hz
    all_goals
      simp only [if_true, if_false, Bool.false_eq_true, reduceIte, Bool.not_true, Bool.not_false]
      refine pu_of fun F ρ tk R hk K => ?_
      run_tac walkC [``has_tv_yes, ``has_base_yes, ``list_extend_ok]
      all_goals exact K _ _ _ _ _ hle ⟨_, _, _, rfl, by assumption, by assumption, by assumption⟩
end Mine

/-! C13 -/
namespace Mine
open PySem PySem.W PySem.W.X
theorem inf_two (y : Wd) (W : Wo) (n : Nat) (ihU : infSpec y W n true 1) (ihD : infSpec y W n false 0) (t ar s as : PT) (up : Bool) (z : Int) (hz : z = if up then 1 else 0) (g0 : Gm) (d u : Nat) (a b kk : Addr) (ht : (PT.two t s).tr) (hr : (PT.two ar as).ty) (hf : t.fil ar) (hf' : s.fil as) (dt : t.dep ≤ n) (ds : s.dep ≤ n) (n3 : n + 1 ≤ 3) (hl : t.tvl.length + s.tvl.length ≤ 20) (hK0 : KIn (tops y) g0) (hW : WoIs g0 W) (hd0 : d + (8 * (n + 1) + 60) < recursionLimit) (hu0 : u + (60 * (n + 1) + 500) < cLine) (ha : TyIs g0 W a (.two t s)) (hb : TyIs g0 W b (.two ar as)) :
    Pu (cx y) g0 d u (.call (.ref 1051) ⟨[.ref a, .ref b, .int z kk], []⟩) (fun g' res => ∃ l vs m, res = .ok (.ret (.ref l)) ∧ g' l = some (lstO vs m) ∧ CosAre g' W vs ((PT.two t s).cons (.two ar as) up) ∧ vs.length ≤ (PT.two t s).tvl.length) := by
  have hi : (PT.two t s).inst = true := rfl
  by_cases tv : (PT.two t s).tvl = []
  · exact inf_no y W up z (.two t s) (.two ar as) g0 d u a b kk ht hi (by simp only [PT.dep]; omega) tv hK0 hW (by omega) (by omega) ha
  have hd : d + 68 < recursionLimit := by omega
  have hu : u + 560 < cLine := by omega
  unfold infSpec at ihU ihD
  have dt3 : (PT.two t s).dep ≤ 3 := by simp only [PT.dep]; omega
  have hl' : (PT.two t s).tvl.length ≤ 100 := by rw [PT.tvl, List.length_append]; omega
  have hl1 : t.tvl.length ≤ 20 := by omega
  have hl2 : s.tvl.length ≤ 20 := by omega
  have n3' : n ≤ 3 := by omega
  have hc : (W.mro 6).contains 6 = true := by obtain ⟨r, e⟩ := mro_cons W 6; rw [e]; simp
  have zz_ := ha.two_inv
  obtain ⟨_, _, x, w, _, _, _, _, _, f1, f2, f3, h0, h2⟩ := zz_
  have zz_ := hb.two_inv
  obtain ⟨_, _, x', w', _, _, _, _, _, f4, f5, f6, h1, h3⟩ := zz_
  have tt := ht.1
  have tr := hr.1
  have tt' := ht.2
  have tr' := hr.2
  have zz_ := hW.rise
  obtain ⟨_, v⟩ := zz_
  have zz_ := hW.fall
  obtain ⟨_, v'⟩ := zz_
  cases v with | mk v1 v2 v3 =>
  cases v' with | mk v1' v2' v3' =>
  have fin : ∀ (g' : Gm) (xs ys : List Value), CosAre g' W xs (t.cons ar up) → CosAre g' W ys (s.cons as (!up)) → xs.length ≤ t.tvl.length → ys.length ≤ s.tvl.length → CosAre g' W (xs ++ ys) ((PT.two t s).cons (.two ar as) up) ∧ (xs ++ ys).length ≤ (PT.two t s).tvl.length := fun g' xs ys p q l l' => by
    rw [PT.cons, PT.tvl, List.length_append, List.length_append]
    exact ⟨p.append q, by omega⟩
  have zz_ := (hW.info 6 (by omega)).inv
  obtain ⟨dd, dn, ddd, tl, tv, bl, ml, _, _, _, _, _, _, _, _, _, _, _, _, _, _, _, _, _, _, _, names, bs, e1, e2, e3, e4, e5, e6, q, e7, b0, b1, e8⟩ := zz_
  simp only [tvs] at e5
  cases up <;> subst hz
  all_goals
    simp only [if_true, if_false, Bool.false_eq_true, reduceIte, Bool.not_true, Bool.not_false] at fin ⊢
    refine pu_of fun F ρ tk R hk K => ?_
    run_tac walkC [``has_tv_yes, ``has_base_yes, ``list_extend_ok]
    all_goals (obtain ⟨p, q⟩ := fin _ _ _ (by assumption) (by assumption) (by assumption) (by assumption); exact K _ _ _ _ _ hle ⟨_, _, _, rfl, by assumption, p, q⟩)
theorem inf_ok (y : Wd) (W : Wo) : ∀ n, infSpec y W n true 1 ∧ infSpec y W n false 0 := by
  have leafCase : ∀ (t ar : PT) (up : Bool) (g0 : Gm) (d u : Nat) (a b kk : Addr), (∃ k, k < 4 ∧ t = .leaf k) ∨ (∃ j, j < 2 ∧ t = .leaf (7 + j)) → t.fil ar → KIn (tops y) g0 → WoIs g0 W → d + 60 < recursionLimit → u + 500 < cLine → TyIs g0 W a t → TyIs g0 W b ar →
      Pu (cx y) g0 d u (.call (.ref 1051) ⟨[.ref a, .ref b, .int (dirI up) kk], []⟩) (fun g' res => ∃ l vs m, res = .ok (.ret (.ref l)) ∧ g' l = some (lstO vs m) ∧ CosAre g' W vs (t.cons ar up) ∧ vs.length ≤ t.tvl.length) := by
    intro t ar up g0 d u a b kk h hf hK hW hd hu ha hb
    rcases h with ⟨k, k4, rfl⟩ | ⟨j, j2, rfl⟩
    · exact inf_no y W up (dirI up) _ ar g0 d u a b kk (.inl k4) (by simpa [PT.inst] using k4) (by simp [PT.dep]) (tvl_cls (by omega)) hK hW hd hu ha
    · have hs : ar.simp := by
        have : (if 7 + j < 7 then ∃ k, k < 4 ∧ ar = .leaf k else ar.simp) := by
          cases ar <;> exact hf
        rwa [if_neg (by omega)] at this
      exact inf_var y W up j ar g0 d u a b kk j2 hs hK hW hd hu ha hb
  have step : ∀ n (up : Bool) (z : Int), z = dirI up → (∀ m, n = m + 1 → infSpec y W m true 1 ∧ infSpec y W m false 0) → infSpec y W n up z := by
    intro n up z hz ih t ar g0 d u a b kk ht hr hf dt n3 hl hK hW hd hu ha hb
    have zz_ := PT.tr_cases ht
    rcases zz_ with h | h | ⟨c, s, hc, ts, rfl⟩ | ⟨s, w, ts, tw, rfl⟩
    · subst hz; exact leafCase t ar up g0 d u a b kk (.inl h) hf hK hW (by omega) (by omega) ha hb
    · subst hz; exact leafCase t ar up g0 d u a b kk (.inr h) hf hK hW (by omega) (by omega) ha hb
    · cases n with
      | zero => simp [PT.dep] at dt
      | succ n =>
        simp only [PT.dep] at dt
        cases ar with
        | leaf => exact hf.elim
        | two => exact hf.elim
        | un k ar =>
          obtain ⟨rfl, hf⟩ := hf
          exact inf_un y W n (ih n rfl).1 (ih n rfl).2 c s ar up z hz g0 d u a b kk ht hr hf (by omega) n3 (by rw [PT.tvl] at hl; exact hl) hK hW hd hu ha hb
    · cases n with
      | zero => simp [PT.dep] at dt
      | succ n =>
        simp only [PT.dep] at dt
        cases ar with
        | leaf => exact hf.elim
        | un => exact hf.elim
        | two ar as =>
          obtain ⟨hf, hf'⟩ := hf
          exact inf_two y W n (ih n rfl).1 (ih n rfl).2 s ar w as up z hz g0 d u a b kk ht hr hf hf' (by omega) (by omega) n3 (by rw [PT.tvl, List.length_append] at hl; exact hl) hK hW hd hu ha hb
  intro n
  induction n with
  | zero => exact ⟨step 0 true 1 rfl (fun m e => by omega), step 0 false 0 rfl (fun m e => by omega)⟩
  | succ n ih => exact ⟨step (n + 1) true 1 rfl (fun m e => by cases e; exact ih), step (n + 1) false 0 rfl (fun m e => by cases e; exact ih)⟩
end Mine

/-! C14 -/
namespace Mine
open PySem PySem.W PySem.W.X
inductive TysAre : Gm → Wo → List Value → List PT → Prop where
  | nil {g : Gm} {W : Wo} : TysAre g W [] []
  | cons {g : Gm} {W : Wo} {a : Addr} {vs : List Value} {t : PT} {ts : List PT} : TyIs g W a t → t.simp → TysAre g W vs ts → TysAre g W (.ref a :: vs) (t :: ts)
theorem TysAre.mono {g g' : Gm} {W : Wo} {vs : List Value} {ts : List PT} (l : Le g g') (h : TysAre g W vs ts) : TysAre g' W vs ts := by
  induction h with
  | nil => exact .nil
  | cons a s _ ih => exact .cons (a.mono l) s ih
theorem TysAre.cons_inv {g : Gm} {W : Wo} {vs : List Value} {t : PT} {ts : List PT} (h : TysAre g W vs (t :: ts)) : ∃ a vs', vs = .ref a :: vs' ∧ TyIs g W a t ∧ t.simp ∧ TysAre g W vs' ts := by
  cases h with | cons a b c => exact ⟨_, _, rfl, a, b, c⟩
theorem TysAre.nil_inv {g : Gm} {W : Wo} {vs : List Value} (h : TysAre g W vs []) : vs = [] := by
  cases h; rfl
theorem jtl_ok (y : Wd) (W : Wo) (g0 : Gm) (d u : Nat) (l m : Nat) (vs : List Value) (t : PT) (ts : List PT) (hz : vs.length ≤ 100000) (hK0 : KIn (tops y) g0) (hW : WoIs g0 W) (hd : d + 110 < recursionLimit) (hu : u + 800 < cLine) (hl : g0 l = some (lstO vs m)) (ht : TysAre g0 W vs (t :: ts)) :
    Pu (cx y) g0 d u (.call (.ref 902) ⟨[.ref l], []⟩) (fun g' r => ∃ c, r = .ok (.ret (.ref c)) ∧ TyIs g' W c (ts.foldl (PT.join W) t) ∧ (ts.foldl (PT.join W) t).simp) := by
  have zz_ := ht.cons_inv
  obtain ⟨a, vs, rfl, ha, hs, htl⟩ := zz_
  simp only [List.length_cons] at hz
  have hz0 : vs.length ≤ 100000 := by omega
  have hz1 : (Value.ref a :: vs).length ≤ 100000 := by simp only [List.length_cons]; omega
  cases ts with
  | nil =>
    obtain rfl := htl.nil_inv
    refine pu_of fun F ρ tk R hk K => ?_
    run_tac walk [``list_slice_from, ``list_len_cons]
    all_goals exact K _ _ _ _ _ hle ⟨_, rfl, by assumption, hs⟩
  | cons t1 ts =>
    have zz_ := htl.cons_inv
    obtain ⟨a1, vs, rfl, ha1, hs1, htl1⟩ := zz_
    have hx0 : (Value.ref a1 :: vs)[0]? = some (Value.ref a1) := rfl
    refine pu_of fun F ρ tk R hk K => ?_
    run_tac walk [``list_slice_from, ``list_len_cons]
    have hleA := hle
    run_tac walk [``next_item, ``next_end, ``join_ok]
    run_tac mkLoop [0, 2] [.idx 2, .ent 0 1, .ent 0 2]
    have hle0 := hleA.trans hle
    have f0 := ‹g _ = some (lstO (Value.ref a1 :: vs) _)›
    have hW0 : WoIs g W := by assumption
    have H : ∀ (ts2 : List PT) (i : Nat) (acc : PT) (g' : Gm) (c : Addr) (v2 : Value) (vs2 : List Value), (Value.ref a1 :: vs).drop i = vs2 → TysAre g' W vs2 ts2 → TyIs g' W c acc → acc.simp → ts2.foldl (PT.join W) acc = (t1 :: ts).foldl (PT.join W) t → Le g g' → P g' i (.ref c) v2 := by
      intro ts2
      induction ts2 with
      | nil =>
        intro i acc g' c v2 vs2 hdr hta hc hac hfo le' ρ' tk'
        obtain rfl := hta.nil_inv
        have hK' := hK.mono le'
        have hx : (Value.ref a1 :: vs)[i]? = none := by
          have := congrArg List.length hdr
          simp only [List.length_drop, List.length_nil] at this
          exact List.getElem?_eq_none (by omega)
        have f1 := le' _ _ f0
        run_tac walk [``next_item, ``next_end]
        exact K _ _ _ _ _ (hle0.trans (le'.trans (by assumption))) ⟨c, rfl, by rw [← hfo]; exact hc.mono (by assumption), by rw [← hfo]; exact hac⟩
      | cons t2 ts2 ih =>
        intro i acc g' c v2 vs2 hdr hta hc hac hfo le' ρ' tk'
        have zz_ := hta.cons_inv
        obtain ⟨a2, vs2, rfl, ha2, hs2, hta2⟩ := zz_
        have hK' := hK.mono le'
        have hW' := hW0.mono le'
        have hx : (Value.ref a1 :: vs)[i]? = some (Value.ref a2) := by
          rw [← Nat.add_zero i, ← List.getElem?_drop, hdr]; rfl
        have hdr' : (Value.ref a1 :: vs).drop (i + 1) = vs2 := by
          rw [← List.drop_drop, hdr]; rfl
        have f1 := le' _ _ f0
        run_tac walk [``next_item, ``next_end, ``join_ok]
        refine en_pack' hk [0, 1] _ (by kernel_rfl) rfl (fun ρ' => ih (i + 1) (acc.join W t2) _ _ (.ref a2) vs2 hdr' (hta2.mono (by assumption)) (by assumption) (PT.simp_join hW' hac hs2) hfo (le'.trans (by assumption)) ρ' _)
    exact H ts 1 (t.join W t1) _ _ (.ref a1) vs rfl (htl1.mono hle0) (by assumption) (PT.simp_join hW hs hs1) rfl (Le.refl _)
end Mine

/-! C15 -/
namespace Mine
open PySem PySem.W PySem.W.X
/-- the key of a target is 0 -/
theorem jkey_ok (y : Wd) (W : Wo) (g0 : Gm) (d u : Nat) (a : Addr) (t : PT) (hi : t.inst = true) (hK0 : KIn (tops y) g0) (hd : d + 9 < recursionLimit) (hu : u + 60 < cLine) (ha : TyIs g0 W a t) :
    Pu (cx y) g0 d u (.call (.ref 997) ⟨[.ref a], []⟩) (fun g' r => ∃ tk, r = .ok (.ret (.int 0 tk))) := by
  have zz_ := ha.inst_inv hi
  obtain ⟨_, _, _, _, _, _, _, _, f1, f2, f3, f4, _⟩ := zz_
  refine pu_of fun F ρ tk R hk K => ?_
  run_tac walk
  all_goals exact K _ _ _ _ _ hle ⟨_, rfl⟩
end Mine

/-! KSort -/
namespace Mine
open PySem PySem.W PySem.W.X PySem.Calls PyProof.Rows
theorem list_sort_key (a k : Addr) : Builtin.«list.sort» ⟨[.ref a], [(Str.ofString "key", .ref k)]⟩ = (do
    let items ← Builtin.List.listItems (.ref a)
    Builtin.List.listUpdate (.ref a) fun _ => #[]
    let before ← seqEpoch a
    let held ← newTuple items.toList
    let keyStore ← newList []
    holding [held, keyStore] do
      rule "list.sort.key"
      for x in items do
        match ← (call (.ref k) [x]).attempt with
        | .ok v => Builtin.List.listUpdate keyStore (·.push v)
        | .error e =>
          rule "list.sort.key-raised"
          let made ← Builtin.List.listItems keyStore
          Builtin.List.listUpdate keyStore fun _ => #[]
          letGo made.toList.reverse [e]
          Builtin.List.listUpdate (.ref a) fun _ => items; throw e
      let keys ← Builtin.List.listItems keyStore
      let kind ← if items.size < 2 then pure general' else keyKind' keys
      let ((), s) ← (if items.size < 2 then pure () else sortRuns').run (SortSt.mk' kind (keys.zip items) #[] 7 none)
      let sorted := (arrOf s).map (·.2)
      Builtin.List.listUpdate keyStore fun _ => #[]
      letGo ((arrOf s).map (·.1)).toList (failedOf s).toList
      let touched := (← seqEpoch a) != before
      Builtin.List.listUpdate (.ref a) fun _ => sorted
      if let some e := failedOf s then rule "list.sort.comparison-raised"; throw e
      if touched then rule "list.sort.modified"; raiseError "ValueError" "list modified during sort"
      ret .none) := by
  first | rfl | (fail "not by rfl")

/-- what a state is while the keys are made -/
structure KeyLoop (X : Cx) (g0 : Gm) (a ks : Addr) (e1 : Nat) (z0 : Nat) (done : Nat) (s : Shared) : Prop where
  ex : ∃ g h tk keys n, s = X.sh h tk ∧ Le g0 g ∧ Inh g h ∧ h.get? a = some (seqObj "list" #[] e1) ∧ h.get? ks = some (seqObj "list" (List.toArray keys) n) ∧ g a = none ∧ g ks = none ∧ keys.length = done ∧ (∀ v ∈ keys, ∃ t, v = Value.int 0 t) ∧ z0 ≤ h.objs.size ∧ (∀ b, b < z0 → g b = g0 b)
theorem key_loop (X : Cx) (g0 : Gm) (d u : Nat) (a ks k : Addr) (e1 z0 : Nat) (E : Value → Shared → Prop) (f : Value → PUnit → Sem (ForInStep PUnit)) (items : List Value) (hsz : items.length ≤ 1000) (ne : a ≠ ks)
    (hf : ∀ x u, f x u = (do
        match ← (call (.ref k) [x]).attempt with
        | .ok v => do Builtin.List.listUpdate (.ref ks) (·.push v); pure (.yield ⟨⟩)
        | .error e => do
          rule "list.sort.key-raised"
          let made ← Builtin.List.listItems (.ref ks)
          Builtin.List.listUpdate (.ref ks) fun _ => #[]
          letGo made.toList.reverse [e]
          Builtin.List.listUpdate (.ref a) (fun _ => ⟨items⟩); throw e))
    (C : ∀ x ∈ items, ∀ g, Le g0 g → Pu X g d u (.call (.ref k) ⟨[x], []⟩) (fun g' r => ∃ tk, r = .ok (.ret (.int 0 tk)))) :
    ∀ (l : List Value) (done : Nat) (s : Shared) (Q : PUnit → Shared → Prop), (∀ x ∈ l, x ∈ items) → done + l.length ≤ 1000 → KeyLoop X g0 a ks e1 z0 done s → (∀ s', KeyLoop X g0 a ks e1 z0 (done + l.length) s' → Q ⟨⟩ s') →
      wpAny X.M (Ar d u) (forIn l PUnit.unit f) Q E s := by
  intro l
  induction l with
  | nil => intro done s Q _ _ h q; rw [List.forIn_nil]; exact wpAny_pure (q s h)
  | cons x l ih =>
    intro done s Q hin hle hlp q
    rw [List.forIn_cons]
    refine wpAny_bind ?_
    rw [hf]
    refine wpAny_bind (wpAny_attempt (wpAny_call ?_))
    have zz_ := hlp.ex
    obtain ⟨g, h, tk, keys, n, rfl, le, hi, ha, hk, hga, hgk, hl, hz, zs, zo⟩ := zz_
    refine C x (hin x List.mem_cons_self) g le h tk hi _ ?_
    rintro g' h' tk' r le' hi' kp sz old ⟨t, rfl⟩
    have ha' := kp _ _ ha
    have hk' := kp _ _ hk
    have alt : a < h.objs.size := Heap.lt_size ha
    have klt : ks < h.objs.size := Heap.lt_size hk
    refine wpAny_bind (listUpdate_at hk' rfl ?_ (by rw [List.size_toArray]; exact line_size (by omega)) (by rw [Array.size_push, List.size_toArray]; exact Nat.succ_le_succ (line_size (by simp at hle; omega))))
    refine wpAny_pure ?_
    have hs : Heap.SameBut ks h' (h'.update ks (Obj.mapSeq fun x => x.push (Value.int 0 t))) := Heap.SameBut.update ..
    obtain ⟨n', hk2⟩ : ∃ n', (h'.update ks (Obj.mapSeq fun x => x.push (Value.int 0 t))).get? ks = some (seqObj "list" (List.toArray (keys ++ [Value.int 0 t])) n') := by
      have w := get?_update_seq hk' (fun x => x.push (Value.int 0 t))
      simp only [List.push_toArray] at w
      exact ⟨_, w⟩
    refine ih (done + 1) _ Q (fun y hy => hin y (List.mem_cons_of_mem _ hy)) (by simp at hle; omega) ⟨g', h'.update ks (Obj.mapSeq fun x => x.push (Value.int 0 t)), tk', keys ++ [.int 0 t], n', rfl, le.trans le', fun b o q => ?_, (hs.2 a ne).trans ha', hk2, (old a alt).trans hga, (old ks klt).trans hgk, by simp [hl], ?_, ?_, fun b hb => (old b (Nat.lt_of_lt_of_le hb zs)).trans (zo b hb)⟩ (fun s' hs' => q s' ?_)
    · have : b ≠ ks := fun e => by rw [e, old ks klt, hgk] at q; cases q
      exact (hs.2 b this).trans (hi' b o q)
    · intro v hv
      have zz_ := List.mem_append.mp hv
      rcases zz_ with hv | hv
      · exact hz v hv
      · exact ⟨t, by simpa using hv⟩
    · rw [hs.1]; exact Nat.le_trans zs sz
    · rw [List.length_cons, show done + (l.length + 1) = done + 1 + l.length by omega]; exact hs'
end Mine

/-! KSort2 -/
namespace Mine
open PySem PySem.W PySem.W.X PySem.Calls PyProof.Rows

/-- the values of a sorted array of pairs are a permutation of what was paired -/
theorem zip_vals {ks vs : List Value} (hl : ks.length = vs.length) {xs : Array Keyed} (hp : xs.Perm (ks.toArray.zip vs.toArray)) : (xs.map (·.2)).toList.Perm vs := by
  have h1 : (xs.map (·.2)).toList.Perm ((ks.toArray.zip vs.toArray).map (·.2)).toList := by
    rw [Array.toList_map, Array.toList_map]
    exact (Array.perm_iff_toList_perm.mp hp).map _
  refine h1.trans (List.Perm.of_eq ?_)
  rw [Array.toList_map]
  simp only [Array.toList_zip]
  rw [List.map_snd_zip (by omega)]
theorem zip_ints {ks vs : List Value} (hz : ∀ v ∈ ks, ∃ t, v = Value.int 0 t) : IntKeys (ks.toArray.zip vs.toArray) := by
  intro p hp
  rw [Array.toList_zip] at hp
  have zz_ := hz p.1 (List.of_mem_zip hp).1
  obtain ⟨t, e⟩ := zz_
  exact ⟨0, t, e⟩

theorem sort_tree (X : Cx) (g : Gm) (d u : Nat) (a k : Addr) (vs : List Value) (n : Nat) (h : Heap) (tk : Nat) (P : Fin → Shared → Prop) (E : Value → Shared → Prop) (hi : Inh g h) (ho : h.get? a = some (seqObj "list" vs.toArray n)) (hn : g a = none) (h64 : vs.length < 64)
    (C : ∀ x ∈ vs, ∀ g', Le g g' → Pu X g' d u (.call (.ref k) ⟨[x], []⟩) (fun g' r => ∃ tk, r = .ok (.ret (.int 0 tk))))
    (fin : ∀ g' h' tk' out m, Le g g' → Inh g' h' → (∀ b, b < h.objs.size → g' b = g b) → h.objs.size ≤ h'.objs.size → h'.get? a = some (seqObj "list" out m) → g' a = none → out.toList.Perm vs → P (.done (.ret .none)) (X.sh h' tk')) :
    wpAny X.M (Ar d u) (Builtin.«list.sort» ⟨[.ref a], [(Str.ofString "key", .ref k)]⟩) P E (X.sh h tk) := by
  rw [list_sort_key]
  have ha : a < h.objs.size := Heap.lt_size ho
  refine wpAny_bind (listItems_at ho rfl ?_)
  refine wpAny_bind (listUpdate_at ho rfl ?_)
  obtain ⟨e1, ho1⟩ : ∃ e1, (h.update a (Obj.mapSeq fun _ => #[])).get? a = some (seqObj "list" #[] e1) := ⟨_, get?_update_seq ho (fun _ => #[])⟩
  refine wpAny_bind (seqEpoch_at ho1 rfl ?_)
  refine wpAny_bind (wpAny_newTuple ?_)
  refine wpAny_bind (wpAny_newList ?_)
  refine wpAny_holding ?_
  refine wpAny_bind (wpAny_rule ?_)
  have hs1 : Heap.SameBut a h (h.update a (Obj.mapSeq fun _ => #[])) := Heap.SameBut.update ..
  have hi1 : Inh g (h.update a (Obj.mapSeq fun _ => #[])) := fun b o q => by
    have : b ≠ a := fun e => by rw [e, hn] at q; cases q
    exact (hs1.2 b this).trans (hi b o q)
  have sz1 : (h.update a (Obj.mapSeq fun _ => #[])).objs.size = h.objs.size := hs1.1
  refine wpAny_bind ?_
  rw [← Array.forIn_toList]
  refine key_loop X g d u a _ k e1 h.objs.size E _ vs (by omega) ?_ (fun x u => rfl) C vs 0 _ _ (fun x hx => hx) (by omega) ⟨g, _, tk, [], 0, rfl, Le.refl g, ?_, ?_, ?_, hn, ?_, rfl, ?_, ?_, fun _ _ => rfl⟩ ?_
  · show a ≠ ((h.update a (Obj.mapSeq fun _ => #[])).push _).objs.size
    rw [size_push', sz1]; exact Nat.ne_of_lt (Nat.lt_succ_of_lt ha)
  · exact fun b o q => Heap.get?_push_of_some _ (Heap.get?_push_of_some _ (hi1 b o q))
  · exact Heap.get?_push_of_some _ (Heap.get?_push_of_some _ ho1)
  · exact Heap.get?_push_size _ rfl
  · exact none_of_size hi (by show h.objs.size ≤ ((h.update a (Obj.mapSeq fun _ => #[])).push _).objs.size; rw [size_push', sz1]; exact Nat.le_succ _)
  · exact fun v hv => nomatch hv
  · show h.objs.size ≤ (((h.update a (Obj.mapSeq fun _ => #[])).push _).push _).objs.size
    rw [size_push', size_push', sz1]; omega
  · intro s' hk
    have zz_ := hk.ex
    obtain ⟨g', h', tk', keys, n', rfl, le, hi', ha', hk', hga, hgk, hl, hz, zs, zo⟩ := zz_
    rw [Nat.zero_add, Array.length_toList, List.size_toArray] at hl
    refine wpAny_bind (listItems_at hk' rfl ?_)
    have hI := intsAre_map keys (fun v hv => let ⟨t, e⟩ := hz v hv; ⟨0, t, e⟩)
    have tail : ∀ st' : SortSt, (arrOf st').Perm (keys.toArray.zip vs.toArray) → failedOf st' = none →
        wpAny X.M (Ar d u) (do
          Builtin.List.listUpdate (.ref ((h.update a (Obj.mapSeq fun _ => #[])).push (seqObj "tuple" vs.toArray 0)).objs.size) fun _ => #[]
          letGo ((arrOf st').map (·.1)).toList (failedOf st').toList
          let touched := (← seqEpoch a) != e1
          Builtin.List.listUpdate (.ref a) fun _ => (arrOf st').map (·.2)
          if let some e := failedOf st' then rule "list.sort.comparison-raised"; throw e
          if touched then rule "list.sort.modified"; raiseError "ValueError" "list modified during sort"
          ret .none) P E (X.sh h' tk') := by
      intro st' hp hf
      have hsz := hp.size_eq
      have hps : ((arrOf st').map (·.2)).size ≤ 1000 := by
        rw [Array.size_map, hsz, Array.size_zip]; simp; omega
      refine wpAny_bind (listUpdate_at hk' rfl ?_ (by rw [List.size_toArray]; exact line_size (by omega)) (Nat.zero_le _))
      refine wpAny_bind (wpAny_letGo ?_)
      have nak : a ≠ ((h.update a (Obj.mapSeq fun _ => #[])).push (seqObj "tuple" vs.toArray 0)).objs.size := by
        rw [size_push', sz1]; exact Nat.ne_of_lt (Nat.lt_succ_of_lt ha)
      generalize hks : ((h.update a (Obj.mapSeq fun _ => #[])).push (seqObj "tuple" vs.toArray 0)).objs.size = ks at *
      have hs2 : Heap.SameBut ks h' (h'.update ks (Obj.mapSeq fun _ => #[])) := Heap.SameBut.update ..
      have ha2 : (h'.update ks (Obj.mapSeq fun _ => #[])).get? a = some (seqObj "list" #[] e1) := (hs2.2 a nak).trans ha'
      refine wpAny_bind (seqEpoch_at ha2 rfl ?_)
      refine wpAny_bind (listUpdate_at ha2 rfl ?_ (Nat.zero_le _) (Nat.le_succ_of_le (line_size (by omega))))
      rw [hf]
      simp only [bne_self_eq_false, Bool.false_eq_true, if_false]
      have hs3 : Heap.SameBut a (h'.update ks (Obj.mapSeq fun _ => #[])) ((h'.update ks (Obj.mapSeq fun _ => #[])).update a (Obj.mapSeq fun _ => (arrOf st').map (·.2))) := Heap.SameBut.update ..
      refine wpAny_pure (fin g' ((h'.update ks (Obj.mapSeq fun _ => #[])).update a (Obj.mapSeq fun _ => (arrOf st').map (·.2))) tk' ((arrOf st').map (·.2)) _ le (fun b o q => ?_) zo ?_ (get?_update_seq ha2 _) hga (zip_vals (by omega) hp))
      · have b1 : b ≠ ks := fun e => by rw [e, hgk] at q; cases q
        have b2 : b ≠ a := fun e => by rw [e, hga] at q; cases q
        exact (hs3.2 b b2).trans ((hs2.2 b b1).trans (hi' b o q))
      · rw [hs3.1, hs2.1]; exact zs
    have hvs : vs.toArray.size = vs.length := by simp
    by_cases h2 : vs.toArray.size < 2
    · rw [if_pos h2, if_pos h2]
      refine wpAny_bind (wpAny_pure ?_)
      dsimp only
      rw [StateT.run_pure]
      refine wpAny_bind (wpAny_pure ?_)
      exact tail (SortSt.mk' general' (keys.toArray.zip vs.toArray) #[] 7 none) (Array.Perm.refl _) rfl
    · rw [if_neg h2, if_neg h2]
      obtain ⟨v₁, v₂, rest, rfl⟩ : ∃ v₁ v₂ rest, keys = v₁ :: v₂ :: rest := by
        match keys, hl with
        | [], hl => simp at hl; omega
        | [_], hl => simp at hl; omega
        | v₁ :: v₂ :: rest, _ => exact ⟨v₁, v₂, rest, rfl⟩
      rw [keyKind_ints hI]
      refine wpAny_bind (wpAny_pure ?_)
      have zsz : ((v₁ :: v₂ :: rest).toArray.zip vs.toArray).size = vs.length := by rw [Array.size_zip]; simp only [List.size_toArray]; omega
      refine wpAny_bind (wpAny_mono (wpS_sortRuns (a₀ := (v₁ :: v₂ :: rest).toArray.zip vs.toArray) (st := SortSt.mk' oneType' ((v₁ :: v₂ :: rest).toArray.zip vs.toArray) #[] 7 none)
        (Q := fun _ st' => (arrOf st').Perm ((v₁ :: v₂ :: rest).toArray.zip vs.toArray) ∧ failedOf st' = none)
        (zip_ints hz) ⟨Array.Perm.refl _, rfl, rfl, rfl⟩ (by rw [zsz]; omega) (by rw [zsz]; exact h64) fun st' a1 a2 a3 => ⟨a1, a2⟩) ?_ fun _ _ e => e)
      rintro ⟨⟨⟩, st'⟩ s' ⟨rfl, hp, hf⟩
      exact tail st' hp hf
end Mine

/-! KSort3 -/
namespace Mine
open PySem PySem.W PySem.W.X PySem.Calls PyProof.Rows
theorem args_sortk (a v : Value) : argsOk "list.sort" ⟨[a], [(Str.ofString "key", v)]⟩ := by unfold argsOk; kernel_rfl
theorem args_sortedk (a v : Value) : argsOk "sorted" ⟨[a], [(Str.ofString "key", v)]⟩ := by unfold argsOk; kernel_rfl
theorem in1_Ar (d u : Nat) : (Ar d u).in1 = Ar d (u + 1) := rfl
theorem sorted_ok (X : Cx) (g : Gm) (d u : Nat) (l k : Addr) (vs : List Value) (n : Nat) (hl : g l = some (lstO vs n)) (h64 : vs.length < 64)
    (C : ∀ x ∈ vs, ∀ g', Le g g' → Pu X g' d (u + 2) (.call (.ref k) ⟨[x], []⟩) (fun g' r => ∃ tk, r = .ok (.ret (.int 0 tk)))) :
    Pu X g d u (.call (.builtin "sorted") ⟨[.ref l], [(Str.ofString "key", .ref k)]⟩) (fun g' r => ∃ c xs m, r = .ok (.ret (.ref c)) ∧ g' c = some (lstO xs m) ∧ xs.Perm vs) := fun h tk hg R K => by
  have hol := hg _ _ hl
  refine codeAny_call_builtin plain_sorted entry_sorted ?_
  have hargs : Manifest.signature? "sorted" ≠ none := by decide +kernel
  simp only [checkBuiltinCall, kind_sorted]
  cases hsig : Manifest.signature? "sorted" with
  | none => exact absurd hsig hargs
  | some sig =>
  have ha' : Bind.checkArgs "sorted" sig ⟨[.ref l], [(Str.ofString "key", .ref k)]⟩ = pure () := by simpa only [argsOk, hsig] using args_sortedk (.ref l) (.ref k)
  simp only [ha']
  refine wpAny_pure ?_
  unfold Builtin.«sorted»
  refine wpAny_bind (m := checkCount "sorted" 1 1 _) (wpAny_pure ?_)
  refine wpAny_bind (collect_list (vs := vs) ⟨_, hol, rfl, n, rfl⟩ ?_ (by simp only [List.size_toArray, sizeLine_eq]; omega))
  refine wpAny_bind (wpAny_newList ?_ (by simp only [List.size_toArray, sizeLine_eq]; omega))
  have hsz : ((h.push (seqObj "list" #[] 0)).update h.objs.size (Obj.mapSeq (· ++ vs.toArray))).objs.size = h.objs.size + 1 := by
    rw [Heap.size_update, size_push']
  have hoL : (((h.push (seqObj "list" #[] 0)).update h.objs.size (Obj.mapSeq (· ++ vs.toArray))).push (seqObj "list" vs.toArray 0)).get? (h.objs.size + 1) = some (seqObj "list" vs.toArray 0) := by
    rw [← hsz]; exact Heap.get?_push_size _ rfl
  have keep : ∀ b o, h.get? b = some o → (((h.push (seqObj "list" #[] 0)).update h.objs.size (Obj.mapSeq (· ++ vs.toArray))).push (seqObj "list" vs.toArray 0)).get? b = some o := fun b o q => by
    have hlt : b < h.objs.size := Heap.lt_size q
    rw [Heap.get?_push_ne _ _ _ (by rw [hsz]; exact Nat.ne_of_lt (Nat.lt_succ_of_lt hlt)), Heap.get?_update_ne _ _ _ _ (Nat.ne_of_lt hlt), Heap.get?_push_ne _ _ _ (Nat.ne_of_lt hlt)]
    exact q
  have szH : (((h.push (seqObj "list" #[] 0)).update h.objs.size (Obj.mapSeq (· ++ vs.toArray))).push (seqObj "list" vs.toArray 0)).objs.size = h.objs.size + 2 := by
    rw [size_push', hsz]
  show wpAny _ _ _ _ _ (X.sh (((h.push (seqObj "list" #[] 0)).update h.objs.size (Obj.mapSeq (· ++ vs.toArray))).push (seqObj "list" vs.toArray 0)) tk)
  generalize hH : ((h.push (seqObj "list" #[] 0)).update h.objs.size (Obj.mapSeq (· ++ vs.toArray))).push (seqObj "list" vs.toArray 0) = H at *
  have e2 : (h.push (seqObj "list" #[] 0)).objs.size = h.objs.size + 1 := by rw [size_push']
  simp only [hsz]
  have hn : g (h.objs.size + 1) = none := none_of_size hg (Nat.le_succ _)
  refine wpAny_bind (wpAny_holding (wpAny_call_entry_kw slot_list_sort ⟨_, hoL, rfl⟩ entry_list_sort ?_ (args_sortk _ _)))
  show wpAny X.M (Ar d (u + 2)) (Builtin.«list.sort» ⟨[.ref (h.objs.size + 1)], [(Str.ofString "key", .ref k)]⟩) _ _ _
  have hG : ∃ G : Gm, (∀ b, G b = if b = h.objs.size + 1 then none else H.get? b) := ⟨fun b => if b = h.objs.size + 1 then none else H.get? b, fun _ => rfl⟩
  obtain ⟨G, hG⟩ := hG
  have hGa : G (h.objs.size + 1) = none := by rw [hG, if_pos rfl]
  have hGk : ∀ b o, h.get? b = some o → G b = some o := fun b o q => by
    rw [hG, if_neg (Nat.ne_of_lt (Nat.lt_succ_of_lt (Heap.lt_size q)))]; exact keep b o q
  have hGl : Le g G := fun b o q => hGk b o (hg b o q)
  refine sort_tree X G d (u + 2) (h.objs.size + 1) k vs 0 H tk _ _ (fun b o q => ?_) hoL hGa h64 (fun x hx g' le => C x hx g' (hGl.trans le)) ?_
  · rw [hG] at q
    by_cases w : b = h.objs.size + 1
    · rw [if_pos w] at q; cases q
    · rw [if_neg w] at q; exact q
  intro g' h' tk' out m le hi' old sz ho hn' hp
  refine ⟨_, rfl, wpAny_pure ?_⟩
  have lt : h.objs.size + 1 < h'.objs.size := Heap.lt_size ho
  have hQ : ∃ Q : Gm, (∀ b, Q b = if b < h.objs.size then g b else if b = h.objs.size + 1 then some (lstO out.toList m) else none) := ⟨_, fun _ => rfl⟩
  obtain ⟨Q, hQ⟩ := hQ
  refine K Q h' tk' _ ?_ ?_ ?_ (Nat.le_of_lt (Nat.lt_of_succ_lt lt)) (fun b hb => by rw [hQ, if_pos hb]) ⟨_, out.toList, m, rfl, by rw [hQ, if_neg (Nat.not_lt.mpr (Nat.le_succ _)), if_pos rfl], hp⟩
  · intro b o q
    rw [hQ, if_pos (Heap.lt_size (hg b o q))]; exact q
  · intro b o q
    rw [hQ] at q
    by_cases w : b < h.objs.size
    · rw [if_pos w] at q
      exact hi' b o (le b o (hGl b o q))
    · rw [if_neg w] at q
      by_cases w' : b = h.objs.size + 1
      · rw [if_pos w'] at q; cases q; subst w'; exact ho
      · rw [if_neg w'] at q; cases q
  · exact fun b o q => hi' b o (le b o (hGk b o q))
end Mine

/-! S1 -/
namespace Mine
open PySem PySem.W PySem.W.X
theorem TysAre.perm {g : Gm} {W : Wo} {vs xs : List Value} (h : xs.Perm vs) : ∀ {ts : List PT}, TysAre g W vs ts → ∃ ts', ts'.Perm ts ∧ TysAre g W xs ts' := by
  induction h with
  | nil => intro ts h; exact ⟨ts, .refl _, h⟩
  | cons x _ ih =>
    intro ts h
    cases h with
    | cons a b c =>
      have zz_ := ih c
      obtain ⟨ts', p, q⟩ := zz_
      exact ⟨_, p.cons _, .cons a b q⟩
  | swap x y l =>
    intro ts h
    cases h with
    | cons a b c =>
      cases c with
      | cons a' b' c => exact ⟨_, .swap _ _ _, .cons a' b' (.cons a b c)⟩
  | trans _ _ ih ih' =>
    intro ts h
    have zz_ := ih' h
    obtain ⟨t1, p, q⟩ := zz_
    have zz_ := ih q
    obtain ⟨t2, p', q'⟩ := zz_
    exact ⟨t2, p'.trans p, q'⟩
theorem TysAre.mem {g : Gm} {W : Wo} {vs : List Value} {ts : List PT} (h : TysAre g W vs ts) : ∀ x ∈ vs, ∃ a t, x = .ref a ∧ TyIs g W a t ∧ t.simp := by
  induction h with
  | nil => intro x hx; cases hx
  | cons a b c ih =>
    intro x hx
    have zz_ := List.mem_cons.mp hx
    rcases zz_ with rfl | hx
    · exact ⟨_, _, rfl, a, b⟩
    · exact ih x hx
theorem TysAre.len {g : Gm} {W : Wo} {vs : List Value} {ts : List PT} (h : TysAre g W vs ts) : vs.length = ts.length := by
  induction h with
  | nil => rfl
  | cons _ _ _ ih => simp [ih]
theorem sortedJ_ok (y : Wd) (W : Wo) (g0 : Gm) (d u : Nat) (l : Addr) (vs : List Value) (ts : List PT) (n : Nat) (hK0 : KIn (tops y) g0) (hd : d + 9 < recursionLimit) (hu : u + 70 < cLine) (hl : g0 l = some (lstO vs n)) (h64 : vs.length < 64) (ht : TysAre g0 W vs ts) :
    Pu (cx y) g0 d u (.call (.builtin "sorted") ⟨[.ref l], [(Str.ofString "key", .ref 997)]⟩) (fun g' r => ∃ c xs m ts', r = .ok (.ret (.ref c)) ∧ g' c = some (lstO xs m) ∧ TysAre g' W xs ts' ∧ ts'.Perm ts ∧ xs.length = vs.length) := by
  refine (sorted_ok (cx y) g0 d u l 997 vs n hl h64 ?_).mono ?_
  · intro x hx g' le
    have zz_ := ht.mem x hx
    obtain ⟨a, t, rfl, h, s⟩ := zz_
    exact jkey_ok y W g' d (u + 2) a t (PT.simp_inst s) (hK0.mono le) hd (by omega) (h.mono le)
  · rintro g' r le ⟨c, xs, m, rfl, h, p⟩
    have zz_ := ht.perm p
    obtain ⟨ts', p', q⟩ := zz_
    exact ⟨c, xs, m, ts', rfl, h, q.mono le, p', p.length_eq⟩
theorem sortedJ_nil (y : Wd) (g0 : Gm) (d u : Nat) (l : Addr) (n : Nat) (hl : g0 l = some (lstO [] n)) :
    Pu (cx y) g0 d u (.call (.builtin "sorted") ⟨[.ref l], [(Str.ofString "key", .ref 997)]⟩) (fun g' r => ∃ c m, r = .ok (.ret (.ref c)) ∧ g' c = some (lstO [] m)) := by
  refine (sorted_ok (cx y) g0 d u l 997 [] n hl (by simp) (fun x hx => nomatch hx)).mono ?_
  rintro g' r le ⟨c, xs, m, rfl, h, p⟩
  obtain rfl := p.eq_nil
  exact ⟨c, m, rfl, h⟩
theorem sortedJ_cons (y : Wd) (W : Wo) (g0 : Gm) (d u : Nat) (l : Addr) (vs : List Value) (s0 : PT) (ss : List PT) (n : Nat) (hK0 : KIn (tops y) g0) (hd : d + 9 < recursionLimit) (hu : u + 70 < cLine) (hl : g0 l = some (lstO vs n)) (h64 : vs.length ≤ 40) (ht : TysAre g0 W vs (s0 :: ss)) :
    Pu (cx y) g0 d u (.call (.builtin "sorted") ⟨[.ref l], [(Str.ofString "key", .ref 997)]⟩) (fun g' r => ∃ c x xs m s0' ss', r = .ok (.ret (.ref c)) ∧ g' c = some (lstO (x :: xs) m) ∧ TysAre g' W (x :: xs) (s0' :: ss') ∧ (s0' :: ss').Perm (s0 :: ss) ∧ xs.length ≤ 100000 ∧ (x :: xs).length ≤ 100000) := by
  refine (sortedJ_ok y W g0 d u l vs (s0 :: ss) n hK0 hd hu hl (by omega) ht).mono ?_
  rintro g' r le ⟨c, xs, m, ts', rfl, h, q, p, e⟩
  cases xs with
  | nil =>
    have h1 := ht.len
    simp only [List.length_cons, List.length_nil] at h1 e
    omega
  | cons x xs =>
    cases q with
    | cons a b q =>
      simp only [List.length_cons] at e
      exact ⟨c, _, xs, m, _, _, rfl, h, .cons a b q, p, by omega, by simp only [List.length_cons]; omega⟩
def solveOne (W : Wo) : List PT → List PT → Option PT
  | [], [] => some (.leaf 9)
  | [], v :: us => some (us.foldl (PT.meet W) v)
  | l :: ls, [] => some (ls.foldl (PT.join W) l)
  | l :: ls, v :: us => if (ls.foldl (PT.join W) l).sub W (us.foldl (PT.meet W) v) = true then some (ls.foldl (PT.join W) l) else none
/-- what stands for an answer or its lack -/
def OptIs (g : Gm) (W : Wo) : Value → Option PT → Prop
  | v, none => v = .none
  | v, some t => ∃ c, v = .ref c ∧ TyIs g W c t
theorem solveUp (y : Wd) (W : Wo) (g0 : Gm) (d u : Nat) (lw m up q : Nat) (vs : List Value) (s0 : PT) (ss : List PT) (h40 : vs.length ≤ 40) (hK0 : KIn (tops y) g0) (hW : WoIs g0 W) (hd : d + 140 < recursionLimit) (hu : u + 1000 < cLine) (hl : g0 lw = some (lstO [] m)) (hp : g0 up = some (lstO vs q)) (ht : TysAre g0 W vs (s0 :: ss)) (hzz : ∀ s ∈ s0 :: ss, s.dep ≤ 0) :
    Pu (cx y) g0 d u (.call (.ref 1004) ⟨[.ref lw, .ref up], []⟩) (fun g' r => ∃ c, r = .ok (.ret (.ref c)) ∧ TyIs g' W c (ss.foldl (PT.meet W) s0)) := by
  have zz_ := ht.cons_inv
  obtain ⟨a, vs, rfl, ha, hs, htl⟩ := zz_
  simp only [List.length_cons] at h40
  have hz0 : vs.length ≤ 100000 := by omega
  have hx0 : (Value.ref a :: vs)[0]? = some (Value.ref a) := rfl
  have zz_ := ha.inst_inv (PT.simp_inst hs)
  obtain ⟨_, _, _, _, _, _, _, _, f1, f2, f3, f4, _⟩ := zz_
  refine pu_of fun F ρ0 tk R hk K => ?_
  run_tac walk
  have hleA := hle
  run_tac walk [``next_item, ``next_end, ``list_append_ok]
  run_tac mkLoop [0, 1, 2] [.idx 2, .ent 0 4, .lst 1]
  have hle0 := hleA.trans hle
  have f0 := ‹g _ = some (lstO (Value.ref a :: vs) _)›
  have f0l := ‹g lw = some (lstO [] _)›
  have hW0 : WoIs g W := by assumption
  have htA : TysAre g W (Value.ref a :: vs) (s0 :: ss) := ht.mono hle0
  have H : ∀ (ts2 : List PT) (i : Nat) (g' : Gm) (v2 : Value) (ws : List Value) (n2 : Nat) (vs2 : List Value), (Value.ref a :: vs).drop i = vs2 → ws ++ vs2 = Value.ref a :: vs → TysAre g' W vs2 ts2 → Le g g' → P g' i v2 ws n2 := by
    intro ts2
    induction ts2 with
    | nil =>
      intro i g' v2 ws n2 vs2 hdr hws hta le' ρA tkA
      obtain rfl := hta.nil_inv
      rw [List.append_nil] at hws
      subst hws
      have hK' := hK.mono le'
      have hx : (Value.ref a :: vs)[i]? = none := by
        have := congrArg List.length hdr
        simp only [List.length_drop, List.length_nil] at this
        exact List.getElem?_eq_none (by omega)
      have f1 := le' _ _ f0
      have f1l := le' _ _ f0l
      have hW1 := hW0.mono le'
      run_tac walk [``next_item, ``next_end, ``list_init_ok, ``list_len_cons, ``sortedJ_nil]
      have hleB := le'.trans hle
      have hleC := hle0.trans hleB
      have htB : TysAre g W (Value.ref a :: vs) (s0 :: ss) := ht.mono (hle0.trans hleB)
      run_tac walk [``next_item, ``next_end]
      run_tac mkLoop [0, 4] [.idx 4, .ent 0 6, .ent 0 8]
      have hle1 := hleC.trans hle
      have f2 := ‹g (ρ0 1) = some (lstO (Value.ref a :: vs) _)›
      have hW2 : WoIs g W := by assumption
      have H2 : ∀ (ts3 : List PT) (i3 : Nat) (acc : PT) (g3 : Gm) (c : Addr) (v3 : Value) (vs3 : List Value), (Value.ref a :: vs).drop i3 = vs3 → TysAre g3 W vs3 ts3 → (∀ s ∈ ts3, s.dep ≤ 0) → TyIs g3 W c acc → acc.ty → acc.dep ≤ 0 → ts3.foldl (PT.meet W) acc = ss.foldl (PT.meet W) s0 → Le g g3 → P g3 i3 (.ref c) v3 := by
        intro ts3
        induction ts3 with
        | nil =>
          intro i3 acc g3 c v3 vs3 hdr hta _ hc hty hdep hfo le3 ρB tkB
          obtain rfl := hta.nil_inv
          have hK3 := hK.mono le3
          have hx : (Value.ref a :: vs)[i3]? = none := by
            have := congrArg List.length hdr
            simp only [List.length_drop, List.length_nil] at this
            exact List.getElem?_eq_none (by omega)
          have f3 := le3 _ _ f2
          have hW3 := hW2.mono le3
          rw [← hfo] at K
          have fin : ∀ g', Le g3 g' → TyIs g' W c acc := fun g' l => hc.mono l
          have zz_ := PT.z_cases hty hdep
          rcases zz_ with rfl | ⟨k, k4, rfl⟩
          · have zz_ := hc.nev_inv
            obtain ⟨_, _, _, _, _, q1, q2⟩ := zz_
            run_tac walk [``next_item, ``next_end]
            all_goals exact K _ _ _ _ _ (hle1.trans (le3.trans hle)) ⟨c, rfl, fin _ hle⟩
          · have zz_ := hc.cls_inv k4
            obtain ⟨_, _, _, _, _, _, _, q1, q2, q3⟩ := zz_
            run_tac walk [``next_item, ``next_end]
            all_goals exact K _ _ _ _ _ (hle1.trans (le3.trans hle)) ⟨c, rfl, fin _ hle⟩
        | cons t3 ts3 ih3 =>
          intro i3 acc g3 c v3 vs3 hdr hta hdz hc hty hdep hfo le3 ρB tkB
          have zz_ := hta.cons_inv
          obtain ⟨a3, vs3, rfl, ha3, hs3, hta3⟩ := zz_
          have hK3 := hK.mono le3
          have hW3 := hW2.mono le3
          have hx : (Value.ref a :: vs)[i3]? = some (Value.ref a3) := by
            rw [← Nat.add_zero i3, ← List.getElem?_drop, hdr]; rfl
          have hdr' : (Value.ref a :: vs).drop (i3 + 1) = vs3 := by
            rw [← List.drop_drop, hdr]; rfl
          have f3 := le3 _ _ f2
          have hd3 := hdz t3 (List.mem_cons_self ..)
          have hty3 := PT.simp_ty hs3
          run_tac walk [``next_item, ``next_end, ``meet_ok]
          refine en_pack' hk [0, 1] _ (by kernel_rfl) rfl (fun ρ' => ih3 (i3 + 1) (acc.meet W t3) _ _ (.ref a3) vs3 hdr' (hta3.mono (by assumption)) (fun s hs => hdz s (List.mem_cons_of_mem _ hs)) (by assumption) (PT.meet_z hty hty3 hdep hd3).1 (PT.meet_z hty hty3 hdep hd3).2 hfo (le3.trans (by assumption)) ρ' _)
      exact H2 ss 1 s0 _ a (.ref a) vs rfl (htl.mono hle1) (fun s hs => hzz s (List.mem_cons_of_mem _ hs)) (ha.mono hle1) (PT.simp_ty hs) (hzz s0 (List.mem_cons_self ..)) rfl (Le.refl _)
    | cons t2 ts2 ih =>
      intro i g' v2 ws n2 vs2 hdr hws hta le' ρ' tk'
      have zz_ := hta.cons_inv
      obtain ⟨a2, vs2, rfl, ha2, hs2, hta2⟩ := zz_
      have hK' := hK.mono le'
      have hx : (Value.ref a :: vs)[i]? = some (Value.ref a2) := by
        rw [← Nat.add_zero i, ← List.getElem?_drop, hdr]; rfl
      have hdr' : (Value.ref a :: vs).drop (i + 1) = vs2 := by
        rw [← List.drop_drop, hdr]; rfl
      have f1 := le' _ _ f0
      have hwl : ws.length ≤ 100000 := by
        have := congrArg List.length hws
        simp only [List.length_append, List.length_cons] at this
        omega
      have zz_ := ha2.inst_inv (PT.simp_inst hs2)
      obtain ⟨_, _, _, _, _, _, _, _, q1, q2, q3, q4, _⟩ := zz_
      run_tac walk [``next_item, ``next_end, ``list_append_ok]
      refine en_pack' hk [0, 1, 2] _ (by kernel_rfl) rfl (fun ρ' => ih (i + 1) _ (.ref a2) (ws ++ [Value.ref a2]) m' vs2 hdr' (by rw [← hws]; simp) (hta2.mono (by assumption)) (le'.trans (by assumption)) ρ' _)
  exact H ss 1 _ _ [.ref a] _ vs rfl rfl (htl.mono hle0) (Le.refl _)
theorem jtlF_ok (y : Wd) (W : Wo) (g0 : Gm) (d u : Nat) (l m : Nat) (vs : List Value) (s0 : PT) (ss : List PT) (hz : vs.length ≤ 100000) (hK0 : KIn (tops y) g0) (hW : WoIs g0 W) (hd : d + 110 < recursionLimit) (hu : u + 800 < cLine) (hl : g0 l = some (lstO vs m)) (ht : TysAre g0 W vs (s0 :: ss)) :
    Pu (cx y) g0 d u (.call (.ref 902) ⟨[.ref l], []⟩) (fun g' r => ∃ c dd tp ws h1 t1 h2 t2 n, r = .ok (.ret (.ref c)) ∧ TyIs g' W c (ss.foldl (PT.join W) s0) ∧ (ss.foldl (PT.join W) s0).simp ∧
      g' c = some (ins 366 dd) ∧ g' dd = some (dct [key h1 t1 "type" (.ref (W.I (ss.foldl (PT.join W) s0).hd)), key h2 t2 "args" (.ref tp)] n) ∧ g' tp = some (tupO ws)) := by
  refine (jtl_ok y W g0 d u l m vs s0 ss hz hK0 hW hd hu hl ht).mono ?_
  rintro g' r le ⟨c, rfl, h, s⟩
  have zz_ := h.inst_inv (PT.simp_inst s)
  obtain ⟨dd, tp, ws, h1, t1, h2, t2, n, f1, f2, f3, _, _⟩ := zz_
  exact ⟨c, dd, tp, ws, h1, t1, h2, t2, n, rfl, h, s, f1, f2, f3⟩
theorem solveLo (y : Wd) (W : Wo) (g0 : Gm) (d u : Nat) (lw m up q : Nat) (vs : List Value) (s0 : PT) (ss : List PT) (h40 : vs.length ≤ 40) (hK0 : KIn (tops y) g0) (hW : WoIs g0 W) (hd : d + 140 < recursionLimit) (hu : u + 1000 < cLine) (hl : g0 lw = some (lstO vs m)) (hp : g0 up = some (lstO [] q)) (ht : TysAre g0 W vs (s0 :: ss)) :
    Pu (cx y) g0 d u (.call (.ref 1004) ⟨[.ref lw, .ref up], []⟩) (fun g' r => ∃ c s0' ss', r = .ok (.ret (.ref c)) ∧ (s0' :: ss').Perm (s0 :: ss) ∧ TyIs g' W c (ss'.foldl (PT.join W) s0') ∧ (ss'.foldl (PT.join W) s0').simp) := by
  have zz_ := ht.cons_inv
  obtain ⟨a, vs, rfl, ha, hs, htl⟩ := zz_
  have h40' := h40
  simp only [List.length_cons] at h40
  have hz0 : vs.length ≤ 100000 := by omega
  have hz1 : (Value.ref a :: vs).length ≤ 100000 := by simp only [List.length_cons]; omega
  refine pu_of fun F ρ0 tk R hk K => ?_
  run_tac walk [``list_init_ok, ``list_len_cons, ``sortedJ_cons, ``jtlF_ok]
  all_goals exact K _ _ _ _ _ hle ⟨_, _, _, rfl, by assumption, by assumption, by assumption⟩
theorem PT.simp_dep : ∀ {t : PT}, t.simp → t.dep ≤ 1
  | .leaf _, _ => by simp [PT.dep]
  | .un _ (.leaf _), _ => by simp [PT.dep]
  | .un _ (.un _ _), h => by simp [PT.simp] at h
  | .un _ (.two _ _), h => by simp [PT.simp] at h
  | .two _ _, h => by simp [PT.simp] at h
theorem sub21_yes (y : Wd) (W : Wo) (l r : PT) (g : Gm) (d u : Nat) (a b : Addr) (tl : l.ty) (tr : r.ty) (dl : l.dep ≤ 1) (dr : r.dep ≤ 1) (hs : l.sub W r = true) (hK : KIn (tops y) g) (hW : WoIs g W) (hd : d + 40 < recursionLimit) (hu : u + 270 < cLine) (ha : TyIs g W a l) (hb : TyIs g W b r) :
    Pu (cx y) g d u (.call (.ref 658) ⟨[.ref a, .ref b], []⟩) (fun g' res => res = .ok (.ret (.bool true))) := by
  refine (sub2_ok y W 1 l r g d u a b tl tr dl dr hK hW (by omega) (by omega) ha hb).mono ?_
  rintro g' r _ ⟨bl, h, s⟩
  unfold Says at s
  rw [h, s, hs]
theorem sub21_no (y : Wd) (W : Wo) (l r : PT) (g : Gm) (d u : Nat) (a b : Addr) (tl : l.ty) (tr : r.ty) (dl : l.dep ≤ 1) (dr : r.dep ≤ 1) (hs : l.sub W r = false) (hK : KIn (tops y) g) (hW : WoIs g W) (hd : d + 40 < recursionLimit) (hu : u + 270 < cLine) (ha : TyIs g W a l) (hb : TyIs g W b r) :
    Pu (cx y) g d u (.call (.ref 658) ⟨[.ref a, .ref b], []⟩) (fun g' res => res = .ok (.ret (.bool false))) := by
  refine (sub2_ok y W 1 l r g d u a b tl tr dl dr hK hW (by omega) (by omega) ha hb).mono ?_
  rintro g' r _ ⟨bl, h, s⟩
  unfold Says at s
  rw [h, s, hs]
/-- both -/
theorem solveBoth (y : Wd) (W : Wo) (g0 : Gm) (d u : Nat) (lw m up q : Nat) (vl : List Value) (l0 : PT) (ls : List PT) (vs : List Value) (s0 : PT) (ss : List PT) (h40 : vs.length ≤ 40) (h40l : vl.length ≤ 40) (hK0 : KIn (tops y) g0) (hW : WoIs g0 W) (hd : d + 140 < recursionLimit) (hu : u + 1000 < cLine) (hl : g0 lw = some (lstO vl m)) (hp : g0 up = some (lstO vs q)) (htw : TysAre g0 W vl (l0 :: ls)) (ht : TysAre g0 W vs (s0 :: ss)) (hzz : ∀ s ∈ s0 :: ss, s.dep ≤ 0) :
    Pu (cx y) g0 d u (.call (.ref 1004) ⟨[.ref lw, .ref up], []⟩) (fun g' r => ∃ v l0' ls', r = .ok (.ret v) ∧ (l0' :: ls').Perm (l0 :: ls) ∧ OptIs g' W v (if (ls'.foldl (PT.join W) l0').sub W (ss.foldl (PT.meet W) s0) = true then some (ls'.foldl (PT.join W) l0') else none) ∧ (ls'.foldl (PT.join W) l0').simp) := by
  have zz_ := ht.cons_inv
  obtain ⟨a, vs, rfl, ha, hs, htl⟩ := zz_
  have zz_ := htw.cons_inv
  obtain ⟨b, vl, rfl, hb, hsb, htlb⟩ := zz_
  have h40b := h40l
  simp only [List.length_cons] at h40 h40l
  have hz0 : vs.length ≤ 100000 := by omega
  have hz0l : vl.length ≤ 100000 := by omega
  have hz1l : (Value.ref b :: vl).length ≤ 100000 := by simp only [List.length_cons]; omega
  have hx0 : (Value.ref a :: vs)[0]? = some (Value.ref a) := rfl
  have zz_ := ha.inst_inv (PT.simp_inst hs)
  obtain ⟨_, _, _, _, _, _, _, _, f1, f2, f3, f4, _⟩ := zz_
  refine pu_of fun F ρ0 tk R hk K => ?_
  run_tac walk
  have hleA := hle
  run_tac walk [``next_item, ``next_end, ``list_append_ok]
  run_tac mkLoop [0, 1, 2] [.idx 2, .ent 0 4, .lst 1]
  have hle0 := hleA.trans hle
  have f0 := ‹g up = some (lstO (Value.ref a :: vs) _)›
  have f0l := ‹g lw = some (lstO (Value.ref b :: vl) _)›
  have hW0 : WoIs g W := by assumption
  have htA : TysAre g W (Value.ref a :: vs) (s0 :: ss) := ht.mono hle0
  have htwA : TysAre g W (Value.ref b :: vl) (l0 :: ls) := htw.mono hle0
  have H : ∀ (ts2 : List PT) (i : Nat) (g' : Gm) (v2 : Value) (ws : List Value) (n2 : Nat) (vs2 : List Value), (Value.ref a :: vs).drop i = vs2 → ws ++ vs2 = Value.ref a :: vs → TysAre g' W vs2 ts2 → Le g g' → P g' i v2 ws n2 := by
    intro ts2
    induction ts2 with
    | nil =>
      intro i g' v2 ws n2 vs2 hdr hws hta le' ρA tkA
      obtain rfl := hta.nil_inv
      rw [List.append_nil] at hws
      subst hws
      have hK' := hK.mono le'
      have hx : (Value.ref a :: vs)[i]? = none := by
        have := congrArg List.length hdr
        simp only [List.length_drop, List.length_nil] at this
        exact List.getElem?_eq_none (by omega)
      have f1 := le' _ _ f0
      have f1l := le' _ _ f0l
      have hW1 := hW0.mono le'
      have htwB := htwA.mono le'
      run_tac walk [``next_item, ``next_end, ``list_init_ok, ``list_len_cons, ``sortedJ_cons, ``jtlF_ok]
      have hleB := le'.trans hle
      have hleC := hle0.trans hleB
      have htB : TysAre g W (Value.ref a :: vs) (s0 :: ss) := ht.mono (hle0.trans hleB)
      have hcT := ‹TyIs g W c (List.foldl (PT.join W) _ _)›
      have hcS := ‹(List.foldl (PT.join W) _ _).simp›
      have hPm := ‹List.Perm (_ :: _) (l0 :: ls)›
      generalize hL : List.foldl (PT.join W) _ _ = L at hcT hcS
      run_tac walk [``next_item, ``next_end]
      run_tac mkLoop [0, 4] [.idx 4, .ent 0 6, .ent 0 8]
      have hle1 := hleC.trans hle
      have f2 := ‹g (ρ0 1) = some (lstO (Value.ref a :: vs) _)›
      have hW2 : WoIs g W := by assumption
      have H2 : ∀ (ts3 : List PT) (i3 : Nat) (acc : PT) (g3 : Gm) (e : Addr) (v3 : Value) (vs3 : List Value), (Value.ref a :: vs).drop i3 = vs3 → TysAre g3 W vs3 ts3 → (∀ s ∈ ts3, s.dep ≤ 0) → TyIs g3 W e acc → acc.ty → acc.dep ≤ 0 → ts3.foldl (PT.meet W) acc = ss.foldl (PT.meet W) s0 → Le g g3 → P g3 i3 (.ref e) v3 := by
        intro ts3
        induction ts3 with
        | nil =>
          intro i3 acc g3 e v3 vs3 hdr hta _ he hty hdep hfo le3 ρB tkB
          obtain rfl := hta.nil_inv
          have hK3 := hK.mono le3
          have hx : (Value.ref a :: vs)[i3]? = none := by
            have := congrArg List.length hdr
            simp only [List.length_drop, List.length_nil] at this
            exact List.getElem?_eq_none (by omega)
          have f3 := le3 _ _ f2
          have hW3 := hW2.mono le3
          have hc3 : TyIs g3 W c L := hcT.mono (hle.trans le3)
          have zz_ := hc3.inst_inv (PT.simp_inst hcS)
          obtain ⟨_, _, _, _, _, _, _, _, c1, c2, c3, c4, _⟩ := zz_
          have Lty := PT.simp_ty hcS
          have Ldep := PT.simp_dep hcS
          rw [← hfo] at K
          have fin1 : L.sub W acc = true → ∀ g', Le g3 g' → OptIs g' W (.ref c) (if L.sub W acc = true then some L else none) := fun h g' l => by
            rw [if_pos h]; exact ⟨c, rfl, hc3.mono l⟩
          have fin2 : L.sub W acc = false → ∀ g', OptIs g' W .none (if L.sub W acc = true then some L else none) := fun h g' => by
            rw [if_neg (by rw [h]; exact Bool.false_ne_true)]; rfl
          have adep : acc.dep ≤ 1 := by omega
          have zz_ := PT.z_cases hty hdep
          rcases zz_ with rfl | ⟨k, k4, rfl⟩
          · have zz_ := he.nev_inv
            obtain ⟨_, _, _, _, _, q1, q2⟩ := zz_
            cases hs : L.sub W (.leaf 9) with
            | true =>
              run_tac walk [``next_item, ``next_end, ``sub21_yes]
              all_goals exact K _ _ _ _ _ (hle1.trans (le3.trans hle)) ⟨_, _, _, rfl, hPm, hL ▸ fin1 hs _ hle, hL ▸ hcS⟩
            | false =>
              run_tac walk [``next_item, ``next_end, ``sub21_no]
              all_goals exact K _ _ _ _ _ (hle1.trans (le3.trans hle)) ⟨_, _, _, rfl, hPm, hL ▸ fin2 hs _, hL ▸ hcS⟩
          · have zz_ := he.cls_inv k4
            obtain ⟨_, _, _, _, _, _, _, q1, q2, q3⟩ := zz_
            cases hs : L.sub W (.leaf k) with
            | true =>
              run_tac walk [``next_item, ``next_end, ``sub21_yes]
              all_goals exact K _ _ _ _ _ (hle1.trans (le3.trans hle)) ⟨_, _, _, rfl, hPm, hL ▸ fin1 hs _ hle, hL ▸ hcS⟩
            | false =>
              run_tac walk [``next_item, ``next_end, ``sub21_no]
              all_goals exact K _ _ _ _ _ (hle1.trans (le3.trans hle)) ⟨_, _, _, rfl, hPm, hL ▸ fin2 hs _, hL ▸ hcS⟩
        | cons t3 ts3 ih3 =>
          intro i3 acc g3 e v3 vs3 hdr hta hdz he hty hdep hfo le3 ρB tkB
          have zz_ := hta.cons_inv
          obtain ⟨a3, vs3, rfl, ha3, hs3, hta3⟩ := zz_
          have hK3 := hK.mono le3
          have hW3 := hW2.mono le3
          have hx : (Value.ref a :: vs)[i3]? = some (Value.ref a3) := by
            rw [← Nat.add_zero i3, ← List.getElem?_drop, hdr]; rfl
          have hdr' : (Value.ref a :: vs).drop (i3 + 1) = vs3 := by
            rw [← List.drop_drop, hdr]; rfl
          have f3 := le3 _ _ f2
          have hd3 := hdz t3 (List.mem_cons_self ..)
          have hty3 := PT.simp_ty hs3
          run_tac walk [``next_item, ``next_end, ``meet_ok]
          refine en_pack' hk [0, 1] _ (by kernel_rfl) rfl (fun ρ' => ih3 (i3 + 1) (acc.meet W t3) _ _ (.ref a3) vs3 hdr' (hta3.mono (by assumption)) (fun s hs => hdz s (List.mem_cons_of_mem _ hs)) (by assumption) (PT.meet_z hty hty3 hdep hd3).1 (PT.meet_z hty hty3 hdep hd3).2 hfo (le3.trans (by assumption)) ρ' _)
      exact H2 ss 1 s0 _ a (.ref a) vs rfl (htl.mono hle1) (fun s hs => hzz s (List.mem_cons_of_mem _ hs)) (ha.mono hle1) (PT.simp_ty hs) (hzz s0 (List.mem_cons_self ..)) rfl (Le.refl _)
    | cons t2 ts2 ih =>
      intro i g' v2 ws n2 vs2 hdr hws hta le' ρ' tk'
      have zz_ := hta.cons_inv
      obtain ⟨a2, vs2, rfl, ha2, hs2, hta2⟩ := zz_
      have hK' := hK.mono le'
      have hx : (Value.ref a :: vs)[i]? = some (Value.ref a2) := by
        rw [← Nat.add_zero i, ← List.getElem?_drop, hdr]; rfl
      have hdr' : (Value.ref a :: vs).drop (i + 1) = vs2 := by
        rw [← List.drop_drop, hdr]; rfl
      have f1 := le' _ _ f0
      have hwl : ws.length ≤ 100000 := by
        have := congrArg List.length hws
        simp only [List.length_append, List.length_cons] at this
        omega
      have zz_ := ha2.inst_inv (PT.simp_inst hs2)
      obtain ⟨_, _, _, _, _, _, _, _, q1, q2, q3, q4, _⟩ := zz_
      run_tac walk [``next_item, ``next_end, ``list_append_ok]
      refine en_pack' hk [0, 1, 2] _ (by kernel_rfl) rfl (fun ρ' => ih (i + 1) _ (.ref a2) (ws ++ [Value.ref a2]) m' vs2 hdr' (by rw [← hws]; simp) (hta2.mono (by assumption)) (le'.trans (by assumption)) ρ' _)
  exact H ss 1 _ _ [.ref a] _ vs rfl rfl (htl.mono hle0) (Le.refl _)
end Mine

/-! S2 -/
namespace Mine
open PySem PySem.W PySem.W.X
theorem OptIs.mono {g g' : Gm} {W : Wo} {v : Value} {o : Option PT} (l : Le g g') (h : OptIs g W v o) : OptIs g' W v o := by
  cases o with
  | none => exact h
  | some t => obtain ⟨c, e, h⟩ := h; exact ⟨c, e, h.mono l⟩
theorem WoIs.vi_ne {g : Gm} {W : Wo} (hW : WoIs g W) : W.vi 0 ≠ W.vi 1 := by
  intro e
  have h0 := (hW.vars 0 (by omega)).2
  have h1 := (hW.vars 1 (by omega)).2
  rw [← e] at h1
  cases h0 with
  | mk a b =>
    cases h1 with
    | mk a' b' =>
      rw [a] at a'
      cases a'
      rw [b] at b'
      injection b' with b'
      simp [dct, Mine.key] at b'
/-- an answer within the range -/
def OptOk (o : Option PT) : Prop := ∀ t, o = some t → t.ty ∧ t.dep ≤ 1
theorem pre_ok (y : Wd) (W : Wo) (g0 : Gm) (d u : Nat) (sl m vl q cl p : Nat) (vs : List Value) (v0 v1 : Value) (o0 o1 : Option PT) (hK0 : KIn (tops y) g0) (hW : WoIs g0 W) (hd : d + 70 < recursionLimit) (hu : u + 500 < cLine)
    (hs : g0 sl = some (lstO [v0, v1] m)) (hv : g0 vl = some (lstO [.ref (W.V 0), .ref (W.V 1)] q)) (hc : g0 cl = some (lstO vs p)) (h0 : OptIs g0 W v0 o0) (h1 : OptIs g0 W v1 o1) (k0 : OptOk o0) (k1 : OptOk o1) :
    Pu (cx y) g0 d u (.call (.ref 1011) ⟨[.ref sl, .ref vl, .ref cl], []⟩) (fun g' r => ∃ c n, r = .ok (.ret (.ref c)) ∧ g' c = some (lstO [v0, v1] n)) := by
  have hr := hW.rootIs
  have zz_ := (hW.vars 0 (by omega)).1
  cases zz_ with | mk e1 e2 e3 =>
  have zz_ := (hW.vars 1 (by omega)).1
  cases zz_ with | mk e1' e2' e3' =>
  cases o0 with
  | none =>
    cases h0
    cases o1 with
    | none =>
      cases h1
      refine pu_of fun F ρ0 tk R hk K => ?_
      run_tac walk [``sub2_top]
      all_goals exact K _ _ _ _ _ hle ⟨_, _, rfl, by assumption⟩
    | some t1 =>
      obtain ⟨c1, rfl, h1⟩ := h1
      have zz_ := k1 _ rfl
      obtain ⟨ty1, dp1⟩ := zz_
      have dp1' : t1.dep ≤ 3 := by omega
      refine pu_of fun F ρ0 tk R hk K => ?_
      run_tac walk [``sub2_top]
      all_goals exact K _ _ _ _ _ hle ⟨_, _, rfl, by assumption⟩
  | some t0 =>
    obtain ⟨c0, rfl, h0⟩ := h0
    have zz_ := k0 _ rfl
    obtain ⟨ty0, dp0⟩ := zz_
    have dp0' : t0.dep ≤ 3 := by omega
    cases o1 with
    | none =>
      cases h1
      refine pu_of fun F ρ0 tk R hk K => ?_
      run_tac walk [``sub2_top]
      all_goals exact K _ _ _ _ _ hle ⟨_, _, rfl, by assumption⟩
    | some t1 =>
      obtain ⟨c1, rfl, h1⟩ := h1
      have zz_ := k1 _ rfl
      obtain ⟨ty1, dp1⟩ := zz_
      have dp1' : t1.dep ≤ 3 := by omega
      refine pu_of fun F ρ0 tk R hk K => ?_
      run_tac walk [``sub2_top]
      all_goals exact K _ _ _ _ _ hle ⟨_, _, rfl, by assumption⟩
theorem foldl_meet_z {W : Wo} : ∀ (ss : List PT) (s0 : PT), s0.ty → s0.dep ≤ 0 → (∀ s ∈ ss, s.ty ∧ s.dep ≤ 0) → (ss.foldl (PT.meet W) s0).ty ∧ (ss.foldl (PT.meet W) s0).dep ≤ 0
  | [], s0, h, z, _ => ⟨h, z⟩
  | s :: ss, s0, h, z, a => by
    have m := PT.meet_z (W := W) h (a s (List.mem_cons_self ..)).1 z (a s (List.mem_cons_self ..)).2
    exact foldl_meet_z ss _ m.1 m.2 fun x hx => a x (List.mem_cons_of_mem _ hx)
theorem TysAre.simp_mem {g : Gm} {W : Wo} {vs : List Value} {ts : List PT} (h : TysAre g W vs ts) : ∀ t ∈ ts, t.simp := by
  induction h with
  | nil => intro x hx; cases hx
  | cons a b c ih =>
    intro x hx
    have zz_ := List.mem_cons.mp hx
    rcases zz_ with rfl | hx
    · exact b
    · exact ih x hx
theorem solveOne_perm {W : Wo} (h : ParOk W) {ls ls' ss : List PT} (p : ls'.Perm ls) (s : ∀ l ∈ ls, l.simp) : solveOne W ls' ss = solveOne W ls ss := by
  cases ls with
  | nil => rw [p.eq_nil]
  | cons l ls =>
    cases ls' with
    | nil => exact absurd p.symm.eq_nil (by simp)
    | cons l' ls' =>
      have e : ls'.foldl (PT.join W) l' = ls.foldl (PT.join W) l := h.joins_perm p fun x hx => s x (p.mem_iff.mp hx)
      cases ss with
      | nil => show some _ = some _; rw [e]
      | cons m ss =>
        show (if _ then _ else _) = (if _ then _ else _)
        rw [e]
theorem solve_ok (y : Wd) (W : Wo) (g0 : Gm) (d u : Nat) (lw m up q : Nat) (vl : List Value) (ls : List PT) (vs : List Value) (ss : List PT) (hK0 : KIn (tops y) g0) (hW : WoIs g0 W) (hd : d + 140 < recursionLimit) (hu : u + 1000 < cLine) (hl : g0 lw = some (lstO vl m)) (hp : g0 up = some (lstO vs q)) (htw : TysAre g0 W vl ls) (ht : TysAre g0 W vs ss) (h40 : vs.length ≤ 40) (h40l : vl.length ≤ 40) (ne : ls ≠ [] ∨ ss ≠ []) (hzz : ∀ s ∈ ss, s.dep ≤ 0) :
    Pu (cx y) g0 d u (.call (.ref 1004) ⟨[.ref lw, .ref up], []⟩) (fun g' r => ∃ v, r = .ok (.ret v) ∧ OptIs g' W v (solveOne W ls ss) ∧ OptOk (solveOne W ls ss)) := by
  have sm := ht.simp_mem
  have sml := htw.simp_mem
  have hp0 := hW.parOk
  cases ls with
  | nil =>
    obtain rfl := htw.nil_inv
    cases ss with
    | nil => rcases ne with h | h <;> exact absurd rfl h
    | cons s0 ss =>
      refine (solveUp y W g0 d u lw m up q vs s0 ss h40 hK0 hW hd hu hl hp ht hzz).mono ?_
      rintro g' r le ⟨c, rfl, h⟩
      refine ⟨_, rfl, ⟨c, rfl, h⟩, ?_⟩
      intro t e
      cases e
      have := foldl_meet_z (W := W) ss s0 (PT.simp_ty (sm s0 (List.mem_cons_self ..))) (hzz s0 (List.mem_cons_self ..)) fun x hx => ⟨PT.simp_ty (sm x (List.mem_cons_of_mem _ hx)), hzz x (List.mem_cons_of_mem _ hx)⟩
      exact ⟨this.1, by have := this.2; omega⟩
  | cons l0 ls =>
    cases ss with
    | nil =>
      obtain rfl := ht.nil_inv
      refine (solveLo y W g0 d u lw m up q vl l0 ls h40l hK0 hW hd hu hl hp htw).mono ?_
      rintro g' r le ⟨c, s0', ss', rfl, p, h, s⟩
      rw [← solveOne_perm hp0 p sml]
      refine ⟨_, rfl, ⟨c, rfl, h⟩, ?_⟩
      intro t e
      cases e
      exact ⟨PT.simp_ty s, PT.simp_dep s⟩
    | cons s0 ss =>
      refine (solveBoth y W g0 d u lw m up q vl l0 ls vs s0 ss h40 h40l hK0 hW hd hu hl hp htw ht hzz).mono ?_
      rintro g' r le ⟨v, s0', ss', rfl, p, h, s⟩
      rw [← solveOne_perm hp0 p sml]
      refine ⟨_, rfl, h, ?_⟩
      intro t e
      change (if (ss'.foldl (PT.join W) s0').sub W (ss.foldl (PT.meet W) s0) = true then some (ss'.foldl (PT.join W) s0') else none) = some t at e
      split at e
      · cases e; exact ⟨PT.simp_ty s, PT.simp_dep s⟩
      · cases e
theorem solve_some (y : Wd) (W : Wo) (g0 : Gm) (d u : Nat) (lw m up q : Nat) (vl : List Value) (ls : List PT) (vs : List Value) (ss : List PT) (t : PT) (hK0 : KIn (tops y) g0) (hW : WoIs g0 W) (hd : d + 140 < recursionLimit) (hu : u + 1000 < cLine) (hl : g0 lw = some (lstO vl m)) (hp : g0 up = some (lstO vs q)) (htw : TysAre g0 W vl ls) (ht : TysAre g0 W vs ss) (h40 : vs.length ≤ 40) (h40l : vl.length ≤ 40) (ne : ls ≠ [] ∨ ss ≠ []) (hzz : ∀ s ∈ ss, s.dep ≤ 0) (hso : solveOne W ls ss = some t) :
    Pu (cx y) g0 d u (.call (.ref 1004) ⟨[.ref lw, .ref up], []⟩) (fun g' r => ∃ c, r = .ok (.ret (.ref c)) ∧ OptIs g' W (.ref c) (some t) ∧ OptOk (some t)) := by
  refine (solve_ok y W g0 d u lw m up q vl ls vs ss hK0 hW hd hu hl hp htw ht h40 h40l ne hzz).mono ?_
  rintro g' r le ⟨v, rfl, h, k⟩
  rw [hso] at h k
  obtain ⟨c, rfl, h⟩ := h
  exact ⟨c, rfl, ⟨c, rfl, h⟩, k⟩
theorem solve_none (y : Wd) (W : Wo) (g0 : Gm) (d u : Nat) (lw m up q : Nat) (vl : List Value) (ls : List PT) (vs : List Value) (ss : List PT) (hK0 : KIn (tops y) g0) (hW : WoIs g0 W) (hd : d + 140 < recursionLimit) (hu : u + 1000 < cLine) (hl : g0 lw = some (lstO vl m)) (hp : g0 up = some (lstO vs q)) (htw : TysAre g0 W vl ls) (ht : TysAre g0 W vs ss) (h40 : vs.length ≤ 40) (h40l : vl.length ≤ 40) (ne : ls ≠ [] ∨ ss ≠ []) (hzz : ∀ s ∈ ss, s.dep ≤ 0) (hso : solveOne W ls ss = none) :
    Pu (cx y) g0 d u (.call (.ref 1004) ⟨[.ref lw, .ref up], []⟩) (fun g' r => r = .ok (.ret .none)) := by
  refine (solve_ok y W g0 d u lw m up q vl ls vs ss hK0 hW hd hu hl hp htw ht h40 h40l ne hzz).mono ?_
  rintro g' r le ⟨v, rfl, h, k⟩
  rw [hso] at h
  cases h
  rfl
end Mine

/-! S3 -/
namespace Mine
open PySem PySem.W PySem.W.X
theorem via_P {T : Sort _} {G : Prop} (P : T) (C : T → Prop) (a : C P → G) (b : C P) : G := a b
abbrev Con := Nat × Bool × PT
def sel (j : Nat) (l : List Con) : List Con := l.filter fun c => c.1 == j
theorem sel_app (j : Nat) (l l' : List Con) : sel j (l ++ l') = sel j l ++ sel j l' := by simp [sel]
theorem sel_len (j : Nat) (l : List Con) : (sel j l).length ≤ l.length := List.length_filter_le ..
/-- the targets of one direction -/
def pickT (up : Bool) (l : List Con) : List PT := (l.filter fun c => c.2.1 == up).map (·.2.2)
theorem pickT_app (up : Bool) (l l' : List Con) : pickT up (l ++ l') = pickT up l ++ pickT up l' := by simp [pickT]
theorem pickT_ne (c : Con) (l : List Con) : pickT true (c :: l) ≠ [] ∨ pickT false (c :: l) ≠ [] := by
  obtain ⟨j, up, t⟩ := c
  cases up
  · exact .inr (by simp [pickT])
  · exact .inl (by simp [pickT])
theorem pickT_mem {up : Bool} {l : List Con} {s : PT} (h : s ∈ pickT up l) : ∃ c ∈ l, c.2.1 = up ∧ c.2.2 = s := by
  have zz_ := List.mem_map.mp h
  obtain ⟨c, hc, e⟩ := zz_
  have zz_ := List.mem_filter.mp hc
  obtain ⟨h1, h2⟩ := zz_
  exact ⟨c, h1, by simpa using h2, e⟩
/-- the answer for a variable -/
def sol (W : Wo) (l : List Con) : Option PT := solveOne W (pickT true l) (pickT false l)
theorem OptOk.no : OptOk none := fun t e => by cases e
theorem OptIs.no (g : Gm) (W : Wo) : OptIs g W .none none := rfl
theorem OptOk.nev : OptOk (some (.leaf 9)) := fun t e => by cases e; exact ⟨.inr rfl, by simp [PT.dep]⟩
theorem OptIs.nev {g : Gm} {W : Wo} {a d : Addr} {t1 n : Nat} {h1 : Int} {b : Bool} (e1 : g a = some (ins 300 d)) (e2 : g d = some (dct [key h1 t1 "ambiguous" (.bool b)] n)) : OptIs g W (.ref a) (some (.leaf 9)) := ⟨a, rfl, .nev e1 e2⟩
theorem TysAre.snoc {g : Gm} {W : Wo} {vs : List Value} {ts : List PT} {a : Addr} {t : PT} (h : TysAre g W vs ts) (x : TyIs g W a t) (s : t.simp) : TysAre g W (vs ++ [.ref a]) (ts ++ [t]) := by
  induction h with
  | nil => exact .cons x s .nil
  | cons a b _ ih => exact .cons a b ih
theorem pickT_len (up : Bool) (l : List Con) : (pickT up l).length ≤ l.length := by rw [pickT, List.length_map]; exact List.length_filter_le ..
structure LoopA (W : Wo) (g0 g' : Gm) (V : List Value) (C : List Con) (vs2 : List Value) (cs2 : List Con) (i : Nat) (ws0 ws1 : List Value) : Prop where
  ex : ∃ done, V.drop i = vs2 ∧ done ++ cs2 = C ∧ CosAre g0 W vs2 cs2 ∧ CosAre g0 W ws0 (sel 0 done) ∧ CosAre g0 W ws1 (sel 1 done)
  le : Le g0 g'
structure LoopC (W : Wo) (g0 g g' : Gm) (V : List Value) (C : List Con) (up : Bool) (vs2 : List Value) (cs2 : List Con) (i : Nat) (ws : List Value) : Prop where
  ex : ∃ done, V.drop i = vs2 ∧ done ++ cs2 = C ∧ CosAre g0 W vs2 cs2 ∧ TysAre g' W ws (pickT up done)
  le : Le g g'
theorem drop_at {V vs2 : List Value} {i : Nat} {v : Value} (h : V.drop i = v :: vs2) : V[i]? = some v ∧ V.drop (i + 1) = vs2 := by
  constructor
  · rw [← Nat.add_zero i, ← List.getElem?_drop, h]; rfl
  · rw [← List.drop_drop, h]; rfl
theorem drop_end {V : List Value} {i : Nat} (h : V.drop i = []) : V[i]? = none := by
  have := congrArg List.length h
  simp only [List.length_drop, List.length_nil] at this
  exact List.getElem?_eq_none (by omega)
open Lean Elab Tactic in
def walkS (specs : List Name := []) (fuel : Nat := 3000) : TacticM Unit :=
  walkTac specs (do
    let t ← instantiateMVars (← getMainTarget)
    if t.isAppOf ``OptIs && (t.getAppArgs[2]!).hasExprMVar then throwError "wait"
    evalTactic (← `(tactic| first | assumption | exact OptIs.nev (by assumption) (by assumption) | exact OptOk.nev | exact OptIs.no _ _ | exact OptOk.no | rfl | omega | (simp only [List.length_append, List.length_nil, List.length_cons, List.nil_append]; omega)))) fuel
theorem opt_or {α : Type} (x : Option α) : x = none ∨ ∃ a, x = some a := by
  cases x with
  | none => exact .inl rfl
  | some a => exact .inr ⟨a, rfl⟩
theorem sc_ok (y : Wd) (W : Wo) (g0 : Gm) (d u : Nat) (vl q cl p : Nat) (vs : List Value) (cs : List Con) (hK0 : KIn (tops y) g0) (hW : WoIs g0 W) (hd : d + 170 < recursionLimit) (hu : u + 1300 < cLine)
    (hv : g0 vl = some (lstO [.ref (W.V 0), .ref (W.V 1)] q)) (hc : g0 cl = some (lstO vs p)) (hcs : CosAre g0 W vs cs) (h40 : vs.length ≤ 40) (hz : ∀ c ∈ cs, c.2.1 = false → c.2.2.dep ≤ 0) :
    Pu (cx y) g0 d u (.call (.ref 990) ⟨[.ref vl, .ref cl], []⟩) (fun g' r => ∃ c n v0 v1, r = .ok (.ret (.ref c)) ∧ g' c = some (lstO [v0, v1] n) ∧ OptIs g' W v0 (sol W (sel 0 cs)) ∧ OptIs g' W v1 (sol W (sel 1 cs)) ∧ OptOk (sol W (sel 0 cs)) ∧ OptOk (sol W (sel 1 cs))) := by
  have vne := hW.vi_ne
  have vne' : W.vi 1 ≠ W.vi 0 := fun e => vne e.symm
  have hW0 := hW
  have zz_ := (hW.vars 0 (by omega)).1
  cases zz_ with | mk e1 e2 e3 =>
  have zz_ := (hW.vars 0 (by omega)).2
  cases zz_ with | mk i1 i2 =>
  have zz_ := (hW.vars 1 (by omega)).1
  cases zz_ with | mk e1' e2' e3' =>
  have zz_ := (hW.vars 1 (by omega)).2
  cases zz_ with | mk i1' i2' =>
  refine pu_of fun F ρ0 tk R hk K => ?_
  run_tac walk
  have hc0 := hc
  have hv0 := hv
  cases hcs with
  | nil =>
    run_tac walkS [``pre_ok]
    all_goals exact K _ _ _ _ _ hle ⟨_, _, _, _, rfl, by assumption, .nev (by assumption) (by assumption), .nev (by assumption) (by assumption), .nev, .nev⟩
  | @cons v vs kc kcs hco hcs =>
    simp only [List.length_cons] at h40
    have hx0 : (v :: vs)[0]? = some v := rfl
    refine via_P (T := Nat → Gm → Nat → Value → List Value → Nat → List Value → Nat → Prop) ?P (fun P => ∀ cs2 x g' i w ws0 n0 ws1 n1 vs2, LoopA W g0 g' (v :: vs) (kc :: kcs) vs2 cs2 i ws0 ws1 → P x g' i w ws0 n0 ws1 n1) ?A ?B
    case A =>
      intro HH
      have hcs0 := hcs
      have hco0 := hco
      cases hco with
      | @mk a dd b j up t h1 h2 h3 h4 t1 t2 t3 t4 t5 n j2 c1 c2 c3 c4 =>
        have hj : j = 0 ∨ j = 1 := by omega
        rcases hj with rfl | rfl
        · run_tac walk [``next_item, ``next_end, ``list_append_ok]
          run_tac mkOut `P [0, 2, 7, 9, 11, 15] [.idx 15, .ent 0 6, .lst 9, .lst 11]
          exact HH kcs _ _ _ _ _ _ _ _ _ ⟨⟨[(0, up, t)], rfl, rfl, hcs0, .cons hco0 .nil, .nil⟩, hle⟩
        · run_tac walk [``next_item, ``next_end, ``list_append_ok]
          run_tac mkLoop [0, 2, 7, 9, 11, 15] [.idx 15, .ent 0 6, .lst 9, .lst 11]
          exact HH kcs _ _ _ _ _ _ _ _ _ ⟨⟨[(1, up, t)], rfl, rfl, hcs0, .nil, .cons hco0 .nil⟩, hle⟩
    case B =>
      intro cs2
      induction cs2 with
      | cons c2 cs2 ih =>
        intro x g' i w ws0 n0 ws1 n1 vs2 hA ρA tkA
        obtain ⟨⟨done, hdr, hdn, hta, hw0, hw1⟩, le'⟩ := hA
        cases hta with
        | @cons v2 vs2 _ _ hco2 hta =>
        have hlen : done.length + (cs2.length + 1) = kcs.length + 1 := by
          have := congrArg List.length hdn
          simpa using this
        have hl := hcs.len
        have hl0 : ws0.length ≤ 100000 := by rw [hw0.len]; have := sel_len 0 done; omega
        have hl1 : ws1.length ≤ 100000 := by rw [hw1.len]; have := sel_len 1 done; omega
        have hK' := hK.mono le'
        have zz_ := drop_at hdr
        obtain ⟨hx, hdr'⟩ := zz_
        have f1 := le' _ _ hc0
        have hW' := hW0.mono le'
        have q1 := le' _ _ i1
        have q2 := le' _ _ i2
        have q1' := le' _ _ i1'
        have q2' := le' _ _ i2'
        have hco0 := hco2
        have hco2 := hco2.mono le'
        cases hco2 with
        | @mk a2 dd b j up t h1 h2 h3 h4 t1 t2 t3 t4 t5 n j2 c1 c2 c3 c4 =>
          have hj : j = 0 ∨ j = 1 := by omega
          rcases hj with rfl | rfl
          · run_tac walk [``next_item, ``next_end, ``list_append_ok]
            refine en_pack' hk [0, 1, 2, 3, 4, 5] _ (by kernel_rfl) rfl (fun ρ' => ih x _ (i + 1) (Value.ref a2) (ws0 ++ [Value.ref a2]) m' ws1 n1 vs2 ⟨⟨done ++ [(0, up, t)], hdr', by rw [← hdn]; simp, hta, ?_, ?_⟩, le'.trans hle⟩ ρ' _)
            · rw [sel_app]; exact hw0.append (.cons hco0 .nil)
            · rw [sel_app]; simpa [sel] using hw1
          · run_tac walk [``next_item, ``next_end, ``list_append_ok]
            refine en_pack' hk [0, 1, 2, 3, 4, 5] _ (by kernel_rfl) rfl (fun ρ' => ih x _ (i + 1) (Value.ref a2) ws0 n0 (ws1 ++ [Value.ref a2]) m' vs2 ⟨⟨done ++ [(1, up, t)], hdr', by rw [← hdn]; simp, hta, ?_, ?_⟩, le'.trans hle⟩ ρ' _)
            · rw [sel_app]; simpa [sel] using hw0
            · rw [sel_app]; exact hw1.append (.cons hco0 .nil)
      | nil =>
        intro x g' i w ws0 n0 ws1 n1 vs2 hA ρA tkA
        obtain ⟨⟨done, hdr, hdn, hta, hw0, hw1⟩, leT⟩ := hA
        cases hta
        rw [List.append_nil] at hdn
        subst hdn
        have hx := drop_end hdr
        obtain ⟨L0, hL0⟩ : ∃ L, sel 0 (kc :: kcs) = L := ⟨_, rfl⟩
        obtain ⟨L1, hL1⟩ : ∃ L, sel 1 (kc :: kcs) = L := ⟨_, rfl⟩
        have l0 : ws0.length ≤ 40 := by rw [hw0.len]; have := sel_len 0 (kc :: kcs); have := hcs.len; simp only [List.length_cons] at *; omega
        have l1 : ws1.length ≤ 40 := by rw [hw1.len]; have := sel_len 1 (kc :: kcs); have := hcs.len; simp only [List.length_cons] at *; omega
        rw [hL0] at hw0
        rw [hL1] at hw1
        have hz0 : ∀ s ∈ pickT false L0, s.dep ≤ 0 := fun s hs => by
          have zz_ := pickT_mem hs
          obtain ⟨e, h1, h2, h3⟩ := zz_
          rw [← h3]; exact hz e (List.mem_filter.mp (hL0 ▸ h1 : e ∈ sel 0 (kc :: kcs))).1 h2
        have hz1 : ∀ s ∈ pickT false L1, s.dep ≤ 0 := fun s hs => by
          have zz_ := pickT_mem hs
          obtain ⟨e, h1, h2, h3⟩ := zz_
          rw [← h3]; exact hz e (List.mem_filter.mp (hL1 ▸ h1 : e ∈ sel 1 (kc :: kcs))).1 h2
        clear hz hdr
        have f1 := leT _ _ hc0
        have hK' := hK0.mono leT
        have hW' := hW0.mono leT
        have q1 := leT _ _ i1
        have q2 := leT _ _ i2
        have q1' := leT _ _ i1'
        have q2' := leT _ _ i2'
        have q3 := leT _ _ hv0
        have q4 := leT _ _ hc0
        have q5 := leT _ _ e1
        have q6 := leT _ _ e2
        have q7 := leT _ _ e1'
        have q8 := leT _ _ e2'
        cases hw0 with
        | nil =>
          cases hw1 with
          | nil =>
            have eS0 : sol W (sel 0 (kc :: kcs)) = some (.leaf 9) := by rw [hL0]; rfl
            have eS1 : sol W (sel 1 (kc :: kcs)) = some (.leaf 9) := by rw [hL1]; rfl
            run_tac walkS [``next_item, ``next_end, ``pre_ok]
            all_goals
              refine K _ _ _ _ _ (leT.trans hle) ?_
              refine ⟨_, _, _, _, rfl, by assumption, ?_, ?_, ?_, ?_⟩
              · rw [eS0]; exact .nev (by assumption) (by assumption)
              · rw [eS1]; exact .nev (by assumption) (by assumption)
              · rw [eS0]; exact .nev
              · rw [eS1]; exact .nev
          | @cons v1 ws1 k1 L1 hk1 hw1 =>
            simp only [List.length_cons] at l1
            have lz1 : ws1.length ≤ 100000 := by omega
            run_tac walkS [``next_item, ``next_end, ``list_len_cons]
            have hleD0E := leT.trans hle
            have fVD0E := ‹g (ρ0 (nat_lit 11)) = some (lstO (v1 :: ws1) _)›
            have hxVD0E : (v1 :: ws1)[0]? = some v1 := rfl
            refine via_P (T := Nat → Gm → Nat → Value → List Value → Nat → Prop) ?PD0E (fun P => ∀ cs2 x g' i w ws n vs2, LoopC W g0 g g' (v1 :: ws1) (k1 :: L1) true vs2 cs2 i ws → P x g' i w ws n) ?AD0E ?BD0E
            case AD0E =>
              intro HH
              have hko := hk1.mono hleD0E
              cases hko with
              | @mk a2 dd b j up t h1 h2 h3 h4 t1 t2 t3 t4 t5 n j2 c1 c2 c3 c4 =>
                cases up
                · run_tac walkS [``next_item, ``next_end, ``list_append_ok]
                  run_tac mkOut `PD0E [0, 1, 2, 6, 7, 8, 17, 18, 19] [.idx 17, .ent 19 0, .lst 18]
                  exact HH _ _ _ _ _ _ _ _ ⟨⟨[(j, false, t)], rfl, rfl, hw1, .nil⟩, hle⟩
                · run_tac walkS [``next_item, ``next_end, ``list_append_ok]
                  run_tac mkLoop [0, 1, 2, 6, 7, 8, 17, 18, 19] [.idx 17, .ent 19 0, .lst 18]
                  exact HH _ _ _ _ _ _ _ _ ⟨⟨[(j, true, t)], rfl, rfl, hw1, .cons (c3.mono hle) c4 .nil⟩, hle⟩
            case BD0E =>
              intro cs2
              induction cs2 with
              | cons c2 cs2 ih =>
                intro x g' i w ws n vs2 hC ρA tkA
                obtain ⟨⟨done, hdr, hdn, hta, hws⟩, le'⟩ := hC
                have le2 := hleD0E.trans le'
                cases hta with
                | @cons v2 vs2 _ _ hco2 hta =>
                have zz_ := drop_at hdr
                obtain ⟨hx, hdr'⟩ := zz_
                have hK' := hK0.mono le2
                have hW' := hW0.mono le2
                have q1 := le2 _ _ i1
                have q2 := le2 _ _ i2
                have q1' := le2 _ _ i1'
                have q2' := le2 _ _ i2'
                have q3 := le2 _ _ hv0
                have q4 := le2 _ _ hc0
                have q5 := le2 _ _ e1
                have q6 := le2 _ _ e2
                have q7 := le2 _ _ e1'
                have q8 := le2 _ _ e2'
                have fv := le' _ _ fVD0E
                have hko := hco2.mono le2
                have hwl : ws.length ≤ 100000 := by rw [hws.len, pickT, List.length_map]; have := List.length_filter_le (fun c : Con => c.2.1 == true) done; have := congrArg List.length hdn; have := hw1.len; simp only [List.length_append, List.length_cons] at *; omega
                cases hko with
                | @mk a2 dd b j up t h1 h2 h3 h4 t1 t2 t3 t4 t5 n2 j2 c1 c2 c3 c4 =>
                cases up
                · run_tac walkS [``next_item, ``next_end, ``list_append_ok]
                  refine en_pack' hk [0, 1, 2, 3, 4, 5, 6, 7, 8] _ (by kernel_rfl) rfl (fun ρ' => ih x _ (i + 1) (Value.ref a2) ws n vs2 ⟨⟨done ++ [(j, false, t)], hdr', by rw [← hdn]; simp, hta, ?_⟩, le'.trans hle⟩ ρ' _)
                  rw [pickT_app]; simpa [pickT] using hws.mono hle
                · run_tac walkS [``next_item, ``next_end, ``list_append_ok]
                  refine en_pack' hk [0, 1, 2, 3, 4, 5, 6, 7, 8] _ (by kernel_rfl) rfl (fun ρ' => ih x _ (i + 1) (Value.ref a2) (ws ++ [Value.ref b]) m' vs2 ⟨⟨done ++ [(j, true, t)], hdr', by rw [← hdn]; simp, hta, ?_⟩, le'.trans hle⟩ ρ' _)
                  rw [pickT_app]; exact (hws.mono hle).snoc (c3.mono hle) c4
              | nil =>
                intro x g' i w wsD0E n vs2 hC ρA tkA
                obtain ⟨⟨done, hdr, hdn, hta, hwsD0E⟩, le'⟩ := hC
                have leTD0E := hleD0E.trans le'
                cases hta
                rw [List.append_nil] at hdn
                subst hdn
                have hx := drop_end hdr
                clear hdr
                have hK' := hK0.mono leTD0E
                have hW' := hW0.mono leTD0E
                have q1 := leTD0E _ _ i1
                have q2 := leTD0E _ _ i2
                have q1' := leTD0E _ _ i1'
                have q2' := leTD0E _ _ i2'
                have q3 := leTD0E _ _ hv0
                have q4 := leTD0E _ _ hc0
                have q5 := leTD0E _ _ e1
                have q6 := leTD0E _ _ e2
                have q7 := leTD0E _ _ e1'
                have q8 := leTD0E _ _ e2'
                have fv := le' _ _ fVD0E
                run_tac walk [``next_item, ``next_end]
                have cLo := hwsD0E.mono hle
                have hleD1E := leTD0E.trans hle
                have fVD1E := ‹g (ρ0 (nat_lit 11)) = some (lstO (v1 :: ws1) _)›
                have hxVD1E : (v1 :: ws1)[0]? = some v1 := rfl
                refine via_P (T := Nat → Gm → Nat → Value → List Value → Nat → Prop) ?PD1E (fun P => ∀ cs2 x g' i w ws n vs2, LoopC W g0 g g' (v1 :: ws1) (k1 :: L1) false vs2 cs2 i ws → P x g' i w ws n) ?AD1E ?BD1E
                case AD1E =>
                  intro HH
                  have hko := hk1.mono hleD1E
                  cases hko with
                  | @mk a2 dd b j up t h1 h2 h3 h4 t1 t2 t3 t4 t5 n j2 c1 c2 c3 c4 =>
                    cases up
                    · run_tac walkS [``next_item, ``next_end, ``list_append_ok]
                      run_tac mkOut `PD1E [0, 1, 2, 3, 4, 5, 7, 9, 10, 11] [.idx 9, .ent 11 0, .lst 10]
                      exact HH _ _ _ _ _ _ _ _ ⟨⟨[(j, false, t)], rfl, rfl, hw1, .cons (c3.mono hle) c4 .nil⟩, hle⟩
                    · run_tac walkS [``next_item, ``next_end, ``list_append_ok]
                      run_tac mkLoop [0, 1, 2, 3, 4, 5, 7, 9, 10, 11] [.idx 9, .ent 11 0, .lst 10]
                      exact HH _ _ _ _ _ _ _ _ ⟨⟨[(j, true, t)], rfl, rfl, hw1, .nil⟩, hle⟩
                case BD1E =>
                  intro cs2
                  induction cs2 with
                  | cons c2 cs2 ih =>
                    intro x g' i w ws n vs2 hC ρA tkA
                    obtain ⟨⟨done, hdr, hdn, hta, hws⟩, le'⟩ := hC
                    have le2 := hleD1E.trans le'
                    cases hta with
                    | @cons v2 vs2 _ _ hco2 hta =>
                    have zz_ := drop_at hdr
                    obtain ⟨hx, hdr'⟩ := zz_
                    have hK' := hK0.mono le2
                    have hW' := hW0.mono le2
                    have q1 := le2 _ _ i1
                    have q2 := le2 _ _ i2
                    have q1' := le2 _ _ i1'
                    have q2' := le2 _ _ i2'
                    have q3 := le2 _ _ hv0
                    have q4 := le2 _ _ hc0
                    have q5 := le2 _ _ e1
                    have q6 := le2 _ _ e2
                    have q7 := le2 _ _ e1'
                    have q8 := le2 _ _ e2'
                    have fv := le' _ _ fVD1E
                    have hko := hco2.mono le2
                    have hwl : ws.length ≤ 100000 := by rw [hws.len, pickT, List.length_map]; have := List.length_filter_le (fun c : Con => c.2.1 == false) done; have := congrArg List.length hdn; have := hw1.len; simp only [List.length_append, List.length_cons] at *; omega
                    cases hko with
                    | @mk a2 dd b j up t h1 h2 h3 h4 t1 t2 t3 t4 t5 n2 j2 c1 c2 c3 c4 =>
                    cases up
                    · run_tac walkS [``next_item, ``next_end, ``list_append_ok]
                      refine en_pack' hk [0, 1, 2, 3, 4, 5, 6, 7, 8, 9] _ (by kernel_rfl) rfl (fun ρ' => ih x _ (i + 1) (Value.ref a2) (ws ++ [Value.ref b]) m' vs2 ⟨⟨done ++ [(j, false, t)], hdr', by rw [← hdn]; simp, hta, ?_⟩, le'.trans hle⟩ ρ' _)
                      rw [pickT_app]; exact (hws.mono hle).snoc (c3.mono hle) c4
                    · run_tac walkS [``next_item, ``next_end, ``list_append_ok]
                      refine en_pack' hk [0, 1, 2, 3, 4, 5, 6, 7, 8, 9] _ (by kernel_rfl) rfl (fun ρ' => ih x _ (i + 1) (Value.ref a2) ws n vs2 ⟨⟨done ++ [(j, true, t)], hdr', by rw [← hdn]; simp, hta, ?_⟩, le'.trans hle⟩ ρ' _)
                      rw [pickT_app]; simpa [pickT] using hws.mono hle
                  | nil =>
                    intro x g' i w wsD1E n vs2 hC ρA tkA
                    obtain ⟨⟨done, hdr, hdn, hta, hwsD1E⟩, le'⟩ := hC
                    have leTD1E := hleD1E.trans le'
                    cases hta
                    rw [List.append_nil] at hdn
                    subst hdn
                    have hx := drop_end hdr
                    clear hdr
                    have hK' := hK0.mono leTD1E
                    have hW' := hW0.mono leTD1E
                    have q1 := leTD1E _ _ i1
                    have q2 := leTD1E _ _ i2
                    have q1' := leTD1E _ _ i1'
                    have q2' := leTD1E _ _ i2'
                    have q3 := leTD1E _ _ hv0
                    have q4 := leTD1E _ _ hc0
                    have q5 := leTD1E _ _ e1
                    have q6 := leTD1E _ _ e2
                    have q7 := leTD1E _ _ e1'
                    have q8 := leTD1E _ _ e2'
                    have fv := le' _ _ fVD1E
                    have cL1 := cLo.mono le'
                    have hne1 := pickT_ne k1 L1
                    have l40a1 : wsD0E.length ≤ 40 := by rw [hwsD0E.len]; have := pickT_len true (k1 :: L1); have := hw1.len; simp only [List.length_cons] at *; omega
                    have l40b1 : wsD1E.length ≤ 40 := by rw [hwsD1E.len]; have := pickT_len false (k1 :: L1); have := hw1.len; simp only [List.length_cons] at *; omega
                    have zo_ := opt_or (solveOne W (pickT true (k1 :: L1)) (pickT false (k1 :: L1)))
                    cases zo_ with
                    | inl hO1 =>
                      have eS0 : sol W (sel 0 (kc :: kcs)) = some (.leaf 9) := by rw [hL0]; rfl
                      have eS1 : sol W (sel 1 (kc :: kcs)) = none := by rw [hL1]; exact hO1
                      run_tac walkS [``next_item, ``next_end, ``solve_none, ``pre_ok]
                      all_goals
                        refine K _ _ _ _ _ (leTD1E.trans hle) ?_
                        refine ⟨_, _, _, _, rfl, by assumption, ?_, ?_, ?_, ?_⟩
                        · rw [eS0]; exact .nev (by assumption) (by assumption)
                        · rw [eS1]; exact rfl
                        · rw [eS0]; exact .nev
                        · rw [eS1]; exact .no
                    | inr zo2_ =>
                      obtain ⟨t1, hO1⟩ := zo2_
                      have eS0 : sol W (sel 0 (kc :: kcs)) = some (.leaf 9) := by rw [hL0]; rfl
                      have eS1 : sol W (sel 1 (kc :: kcs)) = some t1 := by rw [hL1]; exact hO1
                      run_tac walkS [``next_item, ``next_end, ``solve_some, ``pre_ok]
                      all_goals
                        refine K _ _ _ _ _ (leTD1E.trans hle) ?_
                        refine ⟨_, _, _, _, rfl, by assumption, ?_, ?_, ?_, ?_⟩
                        · rw [eS0]; exact .nev (by assumption) (by assumption)
                        · rw [eS1]; assumption
                        · rw [eS0]; exact .nev
                        · rw [eS1]; assumption
        | @cons v0 ws0 k0 L0 hk0 hw0 =>
          simp only [List.length_cons] at l0
          have lz : ws0.length ≤ 100000 := by omega
          run_tac walk [``next_item, ``next_end, ``list_len_cons]
          have hleC0 := leT.trans hle
          have fVC0 := ‹g (ρ0 (nat_lit 9)) = some (lstO (v0 :: ws0) _)›
          have hxVC0 : (v0 :: ws0)[0]? = some v0 := rfl
          refine via_P (T := Nat → Gm → Nat → Value → List Value → Nat → Prop) ?PC0 (fun P => ∀ cs2 x g' i w ws n vs2, LoopC W g0 g g' (v0 :: ws0) (k0 :: L0) true vs2 cs2 i ws → P x g' i w ws n) ?AC0 ?BC0
          case AC0 =>
            intro HH
            have hko := hk0.mono hleC0
            cases hko with
            | @mk a2 dd b j up t h1 h2 h3 h4 t1 t2 t3 t4 t5 n j2 c1 c2 c3 c4 =>
              cases up
              · run_tac walkS [``next_item, ``next_end, ``list_append_ok]
                run_tac mkOut `PC0 [0, 1, 2, 4, 6, 7, 8, 9, 13, 14, 15] [.idx 13, .ent 15 0, .lst 14]
                exact HH _ _ _ _ _ _ _ _ ⟨⟨[(j, false, t)], rfl, rfl, hw0, .nil⟩, hle⟩
              · run_tac walkS [``next_item, ``next_end, ``list_append_ok]
                run_tac mkLoop [0, 1, 2, 4, 6, 7, 8, 9, 13, 14, 15] [.idx 13, .ent 15 0, .lst 14]
                exact HH _ _ _ _ _ _ _ _ ⟨⟨[(j, true, t)], rfl, rfl, hw0, .cons (c3.mono hle) c4 .nil⟩, hle⟩
          case BC0 =>
            intro cs2
            induction cs2 with
            | cons c2 cs2 ih =>
              intro x g' i w ws n vs2 hC ρA tkA
              obtain ⟨⟨done, hdr, hdn, hta, hws⟩, le'⟩ := hC
              have le2 := hleC0.trans le'
              cases hta with
              | @cons v2 vs2 _ _ hco2 hta =>
              have zz_ := drop_at hdr
              obtain ⟨hx, hdr'⟩ := zz_
              have hK' := hK0.mono le2
              have hW' := hW0.mono le2
              have q1 := le2 _ _ i1
              have q2 := le2 _ _ i2
              have q1' := le2 _ _ i1'
              have q2' := le2 _ _ i2'
              have q3 := le2 _ _ hv0
              have q4 := le2 _ _ hc0
              have q5 := le2 _ _ e1
              have q6 := le2 _ _ e2
              have q7 := le2 _ _ e1'
              have q8 := le2 _ _ e2'
              have fv := le' _ _ fVC0
              have hko := hco2.mono le2
              have hwl : ws.length ≤ 100000 := by rw [hws.len, pickT, List.length_map]; have := List.length_filter_le (fun c : Con => c.2.1 == true) done; have := congrArg List.length hdn; have := hw0.len; simp only [List.length_append, List.length_cons] at *; omega
              cases hko with
              | @mk a2 dd b j up t h1 h2 h3 h4 t1 t2 t3 t4 t5 n2 j2 c1 c2 c3 c4 =>
              cases up
              · run_tac walkS [``next_item, ``next_end, ``list_append_ok]
                refine en_pack' hk [0, 1, 2, 3, 4, 5, 6, 7, 8, 9, 10] _ (by kernel_rfl) rfl (fun ρ' => ih x _ (i + 1) (Value.ref a2) ws n vs2 ⟨⟨done ++ [(j, false, t)], hdr', by rw [← hdn]; simp, hta, ?_⟩, le'.trans hle⟩ ρ' _)
                rw [pickT_app]; simpa [pickT] using hws.mono hle
              · run_tac walkS [``next_item, ``next_end, ``list_append_ok]
                refine en_pack' hk [0, 1, 2, 3, 4, 5, 6, 7, 8, 9, 10] _ (by kernel_rfl) rfl (fun ρ' => ih x _ (i + 1) (Value.ref a2) (ws ++ [Value.ref b]) m' vs2 ⟨⟨done ++ [(j, true, t)], hdr', by rw [← hdn]; simp, hta, ?_⟩, le'.trans hle⟩ ρ' _)
                rw [pickT_app]; exact (hws.mono hle).snoc (c3.mono hle) c4
            | nil =>
              intro x g' i w wsC0 n vs2 hC ρA tkA
              obtain ⟨⟨done, hdr, hdn, hta, hwsC0⟩, le'⟩ := hC
              have leTC0 := hleC0.trans le'
              cases hta
              rw [List.append_nil] at hdn
              subst hdn
              have hx := drop_end hdr
              clear hdr
              have hK' := hK0.mono leTC0
              have hW' := hW0.mono leTC0
              have q1 := leTC0 _ _ i1
              have q2 := leTC0 _ _ i2
              have q1' := leTC0 _ _ i1'
              have q2' := leTC0 _ _ i2'
              have q3 := leTC0 _ _ hv0
              have q4 := leTC0 _ _ hc0
              have q5 := leTC0 _ _ e1
              have q6 := leTC0 _ _ e2
              have q7 := leTC0 _ _ e1'
              have q8 := leTC0 _ _ e2'
              have fv := le' _ _ fVC0
              run_tac walk [``next_item, ``next_end]
              have cLo := hwsC0.mono hle
              have hleC1 := leTC0.trans hle
              have fVC1 := ‹g (ρ0 (nat_lit 9)) = some (lstO (v0 :: ws0) _)›
              have hxVC1 : (v0 :: ws0)[0]? = some v0 := rfl
              refine via_P (T := Nat → Gm → Nat → Value → List Value → Nat → Prop) ?PC1 (fun P => ∀ cs2 x g' i w ws n vs2, LoopC W g0 g g' (v0 :: ws0) (k0 :: L0) false vs2 cs2 i ws → P x g' i w ws n) ?AC1 ?BC1
              case AC1 =>
                intro HH
                have hko := hk0.mono hleC1
                cases hko with
                | @mk a2 dd b j up t h1 h2 h3 h4 t1 t2 t3 t4 t5 n j2 c1 c2 c3 c4 =>
                  cases up
                  · run_tac walkS [``next_item, ``next_end, ``list_append_ok]
                    run_tac mkOut `PC1 [0, 1, 2, 3, 4, 5, 6, 7, 9, 11, 12, 13] [.idx 11, .ent 13 0, .lst 12]
                    exact HH _ _ _ _ _ _ _ _ ⟨⟨[(j, false, t)], rfl, rfl, hw0, .cons (c3.mono hle) c4 .nil⟩, hle⟩
                  · run_tac walkS [``next_item, ``next_end, ``list_append_ok]
                    run_tac mkLoop [0, 1, 2, 3, 4, 5, 6, 7, 9, 11, 12, 13] [.idx 11, .ent 13 0, .lst 12]
                    exact HH _ _ _ _ _ _ _ _ ⟨⟨[(j, true, t)], rfl, rfl, hw0, .nil⟩, hle⟩
              case BC1 =>
                intro cs2
                induction cs2 with
                | cons c2 cs2 ih =>
                  intro x g' i w ws n vs2 hC ρA tkA
                  obtain ⟨⟨done, hdr, hdn, hta, hws⟩, le'⟩ := hC
                  have le2 := hleC1.trans le'
                  cases hta with
                  | @cons v2 vs2 _ _ hco2 hta =>
                  have zz_ := drop_at hdr
                  obtain ⟨hx, hdr'⟩ := zz_
                  have hK' := hK0.mono le2
                  have hW' := hW0.mono le2
                  have q1 := le2 _ _ i1
                  have q2 := le2 _ _ i2
                  have q1' := le2 _ _ i1'
                  have q2' := le2 _ _ i2'
                  have q3 := le2 _ _ hv0
                  have q4 := le2 _ _ hc0
                  have q5 := le2 _ _ e1
                  have q6 := le2 _ _ e2
                  have q7 := le2 _ _ e1'
                  have q8 := le2 _ _ e2'
                  have fv := le' _ _ fVC1
                  have hko := hco2.mono le2
                  have hwl : ws.length ≤ 100000 := by rw [hws.len, pickT, List.length_map]; have := List.length_filter_le (fun c : Con => c.2.1 == false) done; have := congrArg List.length hdn; have := hw0.len; simp only [List.length_append, List.length_cons] at *; omega
                  cases hko with
                  | @mk a2 dd b j up t h1 h2 h3 h4 t1 t2 t3 t4 t5 n2 j2 c1 c2 c3 c4 =>
                  cases up
                  · run_tac walkS [``next_item, ``next_end, ``list_append_ok]
                    refine en_pack' hk [0, 1, 2, 3, 4, 5, 6, 7, 8, 9, 10, 11] _ (by kernel_rfl) rfl (fun ρ' => ih x _ (i + 1) (Value.ref a2) (ws ++ [Value.ref b]) m' vs2 ⟨⟨done ++ [(j, false, t)], hdr', by rw [← hdn]; simp, hta, ?_⟩, le'.trans hle⟩ ρ' _)
                    rw [pickT_app]; exact (hws.mono hle).snoc (c3.mono hle) c4
                  · run_tac walkS [``next_item, ``next_end, ``list_append_ok]
                    refine en_pack' hk [0, 1, 2, 3, 4, 5, 6, 7, 8, 9, 10, 11] _ (by kernel_rfl) rfl (fun ρ' => ih x _ (i + 1) (Value.ref a2) ws n vs2 ⟨⟨done ++ [(j, true, t)], hdr', by rw [← hdn]; simp, hta, ?_⟩, le'.trans hle⟩ ρ' _)
                    rw [pickT_app]; simpa [pickT] using hws.mono hle
                | nil =>
                  intro x g' i w wsC1 n vs2 hC ρA tkA
                  obtain ⟨⟨done, hdr, hdn, hta, hwsC1⟩, le'⟩ := hC
                  have leTC1 := hleC1.trans le'
                  cases hta
                  rw [List.append_nil] at hdn
                  subst hdn
                  have hx := drop_end hdr
                  clear hdr
                  have hK' := hK0.mono leTC1
                  have hW' := hW0.mono leTC1
                  have q1 := leTC1 _ _ i1
                  have q2 := leTC1 _ _ i2
                  have q1' := leTC1 _ _ i1'
                  have q2' := leTC1 _ _ i2'
                  have q3 := leTC1 _ _ hv0
                  have q4 := leTC1 _ _ hc0
                  have q5 := leTC1 _ _ e1
                  have q6 := leTC1 _ _ e2
                  have q7 := leTC1 _ _ e1'
                  have q8 := leTC1 _ _ e2'
                  have fv := le' _ _ fVC1
                  have cL1 := cLo.mono le'
                  have hne0 := pickT_ne k0 L0
                  have l40a0 : wsC0.length ≤ 40 := by rw [hwsC0.len]; have := pickT_len true (k0 :: L0); have := hw0.len; simp only [List.length_cons] at *; omega
                  have l40b0 : wsC1.length ≤ 40 := by rw [hwsC1.len]; have := pickT_len false (k0 :: L0); have := hw0.len; simp only [List.length_cons] at *; omega
                  have zo_ := opt_or (solveOne W (pickT true (k0 :: L0)) (pickT false (k0 :: L0)))
                  cases zo_ with
                  | inl hO0 =>
                    cases hw1 with
                    | nil =>
                      have eS0 : sol W (sel 0 (kc :: kcs)) = none := by rw [hL0]; exact hO0
                      have eS1 : sol W (sel 1 (kc :: kcs)) = some (.leaf 9) := by rw [hL1]; rfl
                      run_tac walkS [``next_item, ``next_end, ``solve_none, ``pre_ok]
                      all_goals
                        refine K _ _ _ _ _ (leTC1.trans hle) ?_
                        refine ⟨_, _, _, _, rfl, by assumption, ?_, ?_, ?_, ?_⟩
                        · rw [eS0]; exact rfl
                        · rw [eS1]; exact .nev (by assumption) (by assumption)
                        · rw [eS0]; exact .no
                        · rw [eS1]; exact .nev
                    | @cons v1 ws1 k1 L1 hk1 hw1 =>
                      simp only [List.length_cons] at l1
                      have lz1 : ws1.length ≤ 100000 := by omega
                      run_tac walkS [``next_item, ``next_end, ``solve_none, ``list_len_cons]
                      have hleD0N := leTC1.trans hle
                      have fVD0N := ‹g (ρ0 (nat_lit 11)) = some (lstO (v1 :: ws1) _)›
                      have hxVD0N : (v1 :: ws1)[0]? = some v1 := rfl
                      refine via_P (T := Nat → Gm → Nat → Value → List Value → Nat → Prop) ?PD0N (fun P => ∀ cs2 x g' i w ws n vs2, LoopC W g0 g g' (v1 :: ws1) (k1 :: L1) true vs2 cs2 i ws → P x g' i w ws n) ?AD0N ?BD0N
                      case AD0N =>
                        intro HH
                        have hko := hk1.mono hleD0N
                        cases hko with
                        | @mk a2 dd b j up t h1 h2 h3 h4 t1 t2 t3 t4 t5 n j2 c1 c2 c3 c4 =>
                          cases up
                          · run_tac walkS [``next_item, ``next_end, ``list_append_ok]
                            run_tac mkOut `PD0N [0, 1, 2, 4, 5, 6, 17, 18, 19] [.idx 17, .ent 19 0, .lst 18]
                            exact HH _ _ _ _ _ _ _ _ ⟨⟨[(j, false, t)], rfl, rfl, hw1, .nil⟩, hle⟩
                          · run_tac walkS [``next_item, ``next_end, ``list_append_ok]
                            run_tac mkLoop [0, 1, 2, 4, 5, 6, 17, 18, 19] [.idx 17, .ent 19 0, .lst 18]
                            exact HH _ _ _ _ _ _ _ _ ⟨⟨[(j, true, t)], rfl, rfl, hw1, .cons (c3.mono hle) c4 .nil⟩, hle⟩
                      case BD0N =>
                        intro cs2
                        induction cs2 with
                        | cons c2 cs2 ih =>
                          intro x g' i w ws n vs2 hC ρA tkA
                          obtain ⟨⟨done, hdr, hdn, hta, hws⟩, le'⟩ := hC
                          have le2 := hleD0N.trans le'
                          cases hta with
                          | @cons v2 vs2 _ _ hco2 hta =>
                          have zz_ := drop_at hdr
                          obtain ⟨hx, hdr'⟩ := zz_
                          have hK' := hK0.mono le2
                          have hW' := hW0.mono le2
                          have q1 := le2 _ _ i1
                          have q2 := le2 _ _ i2
                          have q1' := le2 _ _ i1'
                          have q2' := le2 _ _ i2'
                          have q3 := le2 _ _ hv0
                          have q4 := le2 _ _ hc0
                          have q5 := le2 _ _ e1
                          have q6 := le2 _ _ e2
                          have q7 := le2 _ _ e1'
                          have q8 := le2 _ _ e2'
                          have fv := le' _ _ fVD0N
                          have hko := hco2.mono le2
                          have hwl : ws.length ≤ 100000 := by rw [hws.len, pickT, List.length_map]; have := List.length_filter_le (fun c : Con => c.2.1 == true) done; have := congrArg List.length hdn; have := hw1.len; simp only [List.length_append, List.length_cons] at *; omega
                          cases hko with
                          | @mk a2 dd b j up t h1 h2 h3 h4 t1 t2 t3 t4 t5 n2 j2 c1 c2 c3 c4 =>
                          cases up
                          · run_tac walkS [``next_item, ``next_end, ``list_append_ok]
                            refine en_pack' hk [0, 1, 2, 3, 4, 5, 6, 7, 8] _ (by kernel_rfl) rfl (fun ρ' => ih x _ (i + 1) (Value.ref a2) ws n vs2 ⟨⟨done ++ [(j, false, t)], hdr', by rw [← hdn]; simp, hta, ?_⟩, le'.trans hle⟩ ρ' _)
                            rw [pickT_app]; simpa [pickT] using hws.mono hle
                          · run_tac walkS [``next_item, ``next_end, ``list_append_ok]
                            refine en_pack' hk [0, 1, 2, 3, 4, 5, 6, 7, 8] _ (by kernel_rfl) rfl (fun ρ' => ih x _ (i + 1) (Value.ref a2) (ws ++ [Value.ref b]) m' vs2 ⟨⟨done ++ [(j, true, t)], hdr', by rw [← hdn]; simp, hta, ?_⟩, le'.trans hle⟩ ρ' _)
                            rw [pickT_app]; exact (hws.mono hle).snoc (c3.mono hle) c4
                        | nil =>
                          intro x g' i w wsD0N n vs2 hC ρA tkA
                          obtain ⟨⟨done, hdr, hdn, hta, hwsD0N⟩, le'⟩ := hC
                          have leTD0N := hleD0N.trans le'
                          cases hta
                          rw [List.append_nil] at hdn
                          subst hdn
                          have hx := drop_end hdr
                          clear hdr
                          have hK' := hK0.mono leTD0N
                          have hW' := hW0.mono leTD0N
                          have q1 := leTD0N _ _ i1
                          have q2 := leTD0N _ _ i2
                          have q1' := leTD0N _ _ i1'
                          have q2' := leTD0N _ _ i2'
                          have q3 := leTD0N _ _ hv0
                          have q4 := leTD0N _ _ hc0
                          have q5 := leTD0N _ _ e1
                          have q6 := leTD0N _ _ e2
                          have q7 := leTD0N _ _ e1'
                          have q8 := leTD0N _ _ e2'
                          have fv := le' _ _ fVD0N
                          run_tac walk [``next_item, ``next_end]
                          have cLo := hwsD0N.mono hle
                          have hleD1N := leTD0N.trans hle
                          have fVD1N := ‹g (ρ0 (nat_lit 11)) = some (lstO (v1 :: ws1) _)›
                          have hxVD1N : (v1 :: ws1)[0]? = some v1 := rfl
                          refine via_P (T := Nat → Gm → Nat → Value → List Value → Nat → Prop) ?PD1N (fun P => ∀ cs2 x g' i w ws n vs2, LoopC W g0 g g' (v1 :: ws1) (k1 :: L1) false vs2 cs2 i ws → P x g' i w ws n) ?AD1N ?BD1N
                          case AD1N =>
                            intro HH
                            have hko := hk1.mono hleD1N
                            cases hko with
                            | @mk a2 dd b j up t h1 h2 h3 h4 t1 t2 t3 t4 t5 n j2 c1 c2 c3 c4 =>
                              cases up
                              · run_tac walkS [``next_item, ``next_end, ``list_append_ok]
                                run_tac mkOut `PD1N [0, 1, 2, 3, 4, 5, 7, 9, 10, 11] [.idx 9, .ent 11 0, .lst 10]
                                exact HH _ _ _ _ _ _ _ _ ⟨⟨[(j, false, t)], rfl, rfl, hw1, .cons (c3.mono hle) c4 .nil⟩, hle⟩
                              · run_tac walkS [``next_item, ``next_end, ``list_append_ok]
                                run_tac mkLoop [0, 1, 2, 3, 4, 5, 7, 9, 10, 11] [.idx 9, .ent 11 0, .lst 10]
                                exact HH _ _ _ _ _ _ _ _ ⟨⟨[(j, true, t)], rfl, rfl, hw1, .nil⟩, hle⟩
                          case BD1N =>
                            intro cs2
                            induction cs2 with
                            | cons c2 cs2 ih =>
                              intro x g' i w ws n vs2 hC ρA tkA
                              obtain ⟨⟨done, hdr, hdn, hta, hws⟩, le'⟩ := hC
                              have le2 := hleD1N.trans le'
                              cases hta with
                              | @cons v2 vs2 _ _ hco2 hta =>
                              have zz_ := drop_at hdr
                              obtain ⟨hx, hdr'⟩ := zz_
                              have hK' := hK0.mono le2
                              have hW' := hW0.mono le2
                              have q1 := le2 _ _ i1
                              have q2 := le2 _ _ i2
                              have q1' := le2 _ _ i1'
                              have q2' := le2 _ _ i2'
                              have q3 := le2 _ _ hv0
                              have q4 := le2 _ _ hc0
                              have q5 := le2 _ _ e1
                              have q6 := le2 _ _ e2
                              have q7 := le2 _ _ e1'
                              have q8 := le2 _ _ e2'
                              have fv := le' _ _ fVD1N
                              have hko := hco2.mono le2
                              have hwl : ws.length ≤ 100000 := by rw [hws.len, pickT, List.length_map]; have := List.length_filter_le (fun c : Con => c.2.1 == false) done; have := congrArg List.length hdn; have := hw1.len; simp only [List.length_append, List.length_cons] at *; omega
                              cases hko with
                              | @mk a2 dd b j up t h1 h2 h3 h4 t1 t2 t3 t4 t5 n2 j2 c1 c2 c3 c4 =>
                              cases up
                              · run_tac walkS [``next_item, ``next_end, ``list_append_ok]
                                refine en_pack' hk [0, 1, 2, 3, 4, 5, 6, 7, 8, 9] _ (by kernel_rfl) rfl (fun ρ' => ih x _ (i + 1) (Value.ref a2) (ws ++ [Value.ref b]) m' vs2 ⟨⟨done ++ [(j, false, t)], hdr', by rw [← hdn]; simp, hta, ?_⟩, le'.trans hle⟩ ρ' _)
                                rw [pickT_app]; exact (hws.mono hle).snoc (c3.mono hle) c4
                              · run_tac walkS [``next_item, ``next_end, ``list_append_ok]
                                refine en_pack' hk [0, 1, 2, 3, 4, 5, 6, 7, 8, 9] _ (by kernel_rfl) rfl (fun ρ' => ih x _ (i + 1) (Value.ref a2) ws n vs2 ⟨⟨done ++ [(j, true, t)], hdr', by rw [← hdn]; simp, hta, ?_⟩, le'.trans hle⟩ ρ' _)
                                rw [pickT_app]; simpa [pickT] using hws.mono hle
                            | nil =>
                              intro x g' i w wsD1N n vs2 hC ρA tkA
                              obtain ⟨⟨done, hdr, hdn, hta, hwsD1N⟩, le'⟩ := hC
                              have leTD1N := hleD1N.trans le'
                              cases hta
                              rw [List.append_nil] at hdn
                              subst hdn
                              have hx := drop_end hdr
                              clear hdr
                              have hK' := hK0.mono leTD1N
                              have hW' := hW0.mono leTD1N
                              have q1 := leTD1N _ _ i1
                              have q2 := leTD1N _ _ i2
                              have q1' := leTD1N _ _ i1'
                              have q2' := leTD1N _ _ i2'
                              have q3 := leTD1N _ _ hv0
                              have q4 := leTD1N _ _ hc0
                              have q5 := leTD1N _ _ e1
                              have q6 := leTD1N _ _ e2
                              have q7 := leTD1N _ _ e1'
                              have q8 := leTD1N _ _ e2'
                              have fv := le' _ _ fVD1N
                              have cL1 := cLo.mono le'
                              have hne1 := pickT_ne k1 L1
                              have l40a1 : wsD0N.length ≤ 40 := by rw [hwsD0N.len]; have := pickT_len true (k1 :: L1); have := hw1.len; simp only [List.length_cons] at *; omega
                              have l40b1 : wsD1N.length ≤ 40 := by rw [hwsD1N.len]; have := pickT_len false (k1 :: L1); have := hw1.len; simp only [List.length_cons] at *; omega
                              have zo_ := opt_or (solveOne W (pickT true (k1 :: L1)) (pickT false (k1 :: L1)))
                              cases zo_ with
                              | inl hO1 =>
                                have eS0 : sol W (sel 0 (kc :: kcs)) = none := by rw [hL0]; exact hO0
                                have eS1 : sol W (sel 1 (kc :: kcs)) = none := by rw [hL1]; exact hO1
                                run_tac walkS [``next_item, ``next_end, ``solve_none, ``pre_ok]
                                all_goals
                                  refine K _ _ _ _ _ (leTD1N.trans hle) ?_
                                  refine ⟨_, _, _, _, rfl, by assumption, ?_, ?_, ?_, ?_⟩
                                  · rw [eS0]; exact rfl
                                  · rw [eS1]; exact rfl
                                  · rw [eS0]; exact .no
                                  · rw [eS1]; exact .no
                              | inr zo2_ =>
                                obtain ⟨t1, hO1⟩ := zo2_
                                have eS0 : sol W (sel 0 (kc :: kcs)) = none := by rw [hL0]; exact hO0
                                have eS1 : sol W (sel 1 (kc :: kcs)) = some t1 := by rw [hL1]; exact hO1
                                run_tac walkS [``next_item, ``next_end, ``solve_some, ``pre_ok]
                                all_goals
                                  refine K _ _ _ _ _ (leTD1N.trans hle) ?_
                                  refine ⟨_, _, _, _, rfl, by assumption, ?_, ?_, ?_, ?_⟩
                                  · rw [eS0]; exact rfl
                                  · rw [eS1]; assumption
                                  · rw [eS0]; exact .no
                                  · rw [eS1]; assumption
                  | inr zo2_ =>
                    obtain ⟨t0, hO0⟩ := zo2_
                    cases hw1 with
                    | nil =>
                      have eS0 : sol W (sel 0 (kc :: kcs)) = some t0 := by rw [hL0]; exact hO0
                      have eS1 : sol W (sel 1 (kc :: kcs)) = some (.leaf 9) := by rw [hL1]; rfl
                      run_tac walkS [``next_item, ``next_end, ``solve_some, ``pre_ok]
                      all_goals
                        refine K _ _ _ _ _ (leTC1.trans hle) ?_
                        refine ⟨_, _, _, _, rfl, by assumption, ?_, ?_, ?_, ?_⟩
                        · rw [eS0]; assumption
                        · rw [eS1]; exact .nev (by assumption) (by assumption)
                        · rw [eS0]; assumption
                        · rw [eS1]; exact .nev
                    | @cons v1 ws1 k1 L1 hk1 hw1 =>
                      simp only [List.length_cons] at l1
                      have lz1 : ws1.length ≤ 100000 := by omega
                      run_tac walkS [``next_item, ``next_end, ``solve_some, ``list_len_cons]
                      have cOpt := ‹OptIs g W _ (some t0)›
                      have cOk := ‹OptOk (some t0)›
                      have hleD0S := leTC1.trans hle
                      have fVD0S := ‹g (ρ0 (nat_lit 11)) = some (lstO (v1 :: ws1) _)›
                      have hxVD0S : (v1 :: ws1)[0]? = some v1 := rfl
                      refine via_P (T := Nat → Gm → Nat → Value → List Value → Nat → Prop) ?PD0S (fun P => ∀ cs2 x g' i w ws n vs2, LoopC W g0 g g' (v1 :: ws1) (k1 :: L1) true vs2 cs2 i ws → P x g' i w ws n) ?AD0S ?BD0S
                      case AD0S =>
                        intro HH
                        have hko := hk1.mono hleD0S
                        cases hko with
                        | @mk a2 dd b j up t h1 h2 h3 h4 t1 t2 t3 t4 t5 n j2 c1 c2 c3 c4 =>
                          cases up
                          · run_tac walkS [``next_item, ``next_end, ``list_append_ok]
                            run_tac mkOut `PD0S [0, 1, 2, 4, 5, 6, 17, 18, 19] [.idx 17, .ent 19 0, .lst 18]
                            exact HH _ _ _ _ _ _ _ _ ⟨⟨[(j, false, t)], rfl, rfl, hw1, .nil⟩, hle⟩
                          · run_tac walkS [``next_item, ``next_end, ``list_append_ok]
                            run_tac mkLoop [0, 1, 2, 4, 5, 6, 17, 18, 19] [.idx 17, .ent 19 0, .lst 18]
                            exact HH _ _ _ _ _ _ _ _ ⟨⟨[(j, true, t)], rfl, rfl, hw1, .cons (c3.mono hle) c4 .nil⟩, hle⟩
                      case BD0S =>
                        intro cs2
                        induction cs2 with
                        | cons c2 cs2 ih =>
                          intro x g' i w ws n vs2 hC ρA tkA
                          obtain ⟨⟨done, hdr, hdn, hta, hws⟩, le'⟩ := hC
                          have le2 := hleD0S.trans le'
                          cases hta with
                          | @cons v2 vs2 _ _ hco2 hta =>
                          have zz_ := drop_at hdr
                          obtain ⟨hx, hdr'⟩ := zz_
                          have hK' := hK0.mono le2
                          have hW' := hW0.mono le2
                          have q1 := le2 _ _ i1
                          have q2 := le2 _ _ i2
                          have q1' := le2 _ _ i1'
                          have q2' := le2 _ _ i2'
                          have q3 := le2 _ _ hv0
                          have q4 := le2 _ _ hc0
                          have q5 := le2 _ _ e1
                          have q6 := le2 _ _ e2
                          have q7 := le2 _ _ e1'
                          have q8 := le2 _ _ e2'
                          have fv := le' _ _ fVD0S
                          have hko := hco2.mono le2
                          have hwl : ws.length ≤ 100000 := by rw [hws.len, pickT, List.length_map]; have := List.length_filter_le (fun c : Con => c.2.1 == true) done; have := congrArg List.length hdn; have := hw1.len; simp only [List.length_append, List.length_cons] at *; omega
                          cases hko with
                          | @mk a2 dd b j up t h1 h2 h3 h4 t1 t2 t3 t4 t5 n2 j2 c1 c2 c3 c4 =>
                          cases up
                          · run_tac walkS [``next_item, ``next_end, ``list_append_ok]
                            refine en_pack' hk [0, 1, 2, 3, 4, 5, 6, 7, 8] _ (by kernel_rfl) rfl (fun ρ' => ih x _ (i + 1) (Value.ref a2) ws n vs2 ⟨⟨done ++ [(j, false, t)], hdr', by rw [← hdn]; simp, hta, ?_⟩, le'.trans hle⟩ ρ' _)
                            rw [pickT_app]; simpa [pickT] using hws.mono hle
                          · run_tac walkS [``next_item, ``next_end, ``list_append_ok]
                            refine en_pack' hk [0, 1, 2, 3, 4, 5, 6, 7, 8] _ (by kernel_rfl) rfl (fun ρ' => ih x _ (i + 1) (Value.ref a2) (ws ++ [Value.ref b]) m' vs2 ⟨⟨done ++ [(j, true, t)], hdr', by rw [← hdn]; simp, hta, ?_⟩, le'.trans hle⟩ ρ' _)
                            rw [pickT_app]; exact (hws.mono hle).snoc (c3.mono hle) c4
                        | nil =>
                          intro x g' i w wsD0S n vs2 hC ρA tkA
                          obtain ⟨⟨done, hdr, hdn, hta, hwsD0S⟩, le'⟩ := hC
                          have leTD0S := hleD0S.trans le'
                          cases hta
                          rw [List.append_nil] at hdn
                          subst hdn
                          have hx := drop_end hdr
                          clear hdr
                          have hK' := hK0.mono leTD0S
                          have hW' := hW0.mono leTD0S
                          have q1 := leTD0S _ _ i1
                          have q2 := leTD0S _ _ i2
                          have q1' := leTD0S _ _ i1'
                          have q2' := leTD0S _ _ i2'
                          have q3 := leTD0S _ _ hv0
                          have q4 := leTD0S _ _ hc0
                          have q5 := leTD0S _ _ e1
                          have q6 := leTD0S _ _ e2
                          have q7 := leTD0S _ _ e1'
                          have q8 := leTD0S _ _ e2'
                          have fv := le' _ _ fVD0S
                          run_tac walk [``next_item, ``next_end]
                          have cLo := hwsD0S.mono hle
                          have cO := cOpt.mono (le'.trans hle)
                          have hleD1S := leTD0S.trans hle
                          have fVD1S := ‹g (ρ0 (nat_lit 11)) = some (lstO (v1 :: ws1) _)›
                          have hxVD1S : (v1 :: ws1)[0]? = some v1 := rfl
                          refine via_P (T := Nat → Gm → Nat → Value → List Value → Nat → Prop) ?PD1S (fun P => ∀ cs2 x g' i w ws n vs2, LoopC W g0 g g' (v1 :: ws1) (k1 :: L1) false vs2 cs2 i ws → P x g' i w ws n) ?AD1S ?BD1S
                          case AD1S =>
                            intro HH
                            have hko := hk1.mono hleD1S
                            cases hko with
                            | @mk a2 dd b j up t h1 h2 h3 h4 t1 t2 t3 t4 t5 n j2 c1 c2 c3 c4 =>
                              cases up
                              · run_tac walkS [``next_item, ``next_end, ``list_append_ok]
                                run_tac mkOut `PD1S [0, 1, 2, 3, 4, 5, 7, 9, 10, 11] [.idx 9, .ent 11 0, .lst 10]
                                exact HH _ _ _ _ _ _ _ _ ⟨⟨[(j, false, t)], rfl, rfl, hw1, .cons (c3.mono hle) c4 .nil⟩, hle⟩
                              · run_tac walkS [``next_item, ``next_end, ``list_append_ok]
                                run_tac mkLoop [0, 1, 2, 3, 4, 5, 7, 9, 10, 11] [.idx 9, .ent 11 0, .lst 10]
                                exact HH _ _ _ _ _ _ _ _ ⟨⟨[(j, true, t)], rfl, rfl, hw1, .nil⟩, hle⟩
                          case BD1S =>
                            intro cs2
                            induction cs2 with
                            | cons c2 cs2 ih =>
                              intro x g' i w ws n vs2 hC ρA tkA
                              obtain ⟨⟨done, hdr, hdn, hta, hws⟩, le'⟩ := hC
                              have le2 := hleD1S.trans le'
                              cases hta with
                              | @cons v2 vs2 _ _ hco2 hta =>
                              have zz_ := drop_at hdr
                              obtain ⟨hx, hdr'⟩ := zz_
                              have hK' := hK0.mono le2
                              have hW' := hW0.mono le2
                              have q1 := le2 _ _ i1
                              have q2 := le2 _ _ i2
                              have q1' := le2 _ _ i1'
                              have q2' := le2 _ _ i2'
                              have q3 := le2 _ _ hv0
                              have q4 := le2 _ _ hc0
                              have q5 := le2 _ _ e1
                              have q6 := le2 _ _ e2
                              have q7 := le2 _ _ e1'
                              have q8 := le2 _ _ e2'
                              have fv := le' _ _ fVD1S
                              have hko := hco2.mono le2
                              have hwl : ws.length ≤ 100000 := by rw [hws.len, pickT, List.length_map]; have := List.length_filter_le (fun c : Con => c.2.1 == false) done; have := congrArg List.length hdn; have := hw1.len; simp only [List.length_append, List.length_cons] at *; omega
                              cases hko with
                              | @mk a2 dd b j up t h1 h2 h3 h4 t1 t2 t3 t4 t5 n2 j2 c1 c2 c3 c4 =>
                              cases up
                              · run_tac walkS [``next_item, ``next_end, ``list_append_ok]
                                refine en_pack' hk [0, 1, 2, 3, 4, 5, 6, 7, 8, 9] _ (by kernel_rfl) rfl (fun ρ' => ih x _ (i + 1) (Value.ref a2) (ws ++ [Value.ref b]) m' vs2 ⟨⟨done ++ [(j, false, t)], hdr', by rw [← hdn]; simp, hta, ?_⟩, le'.trans hle⟩ ρ' _)
                                rw [pickT_app]; exact (hws.mono hle).snoc (c3.mono hle) c4
                              · run_tac walkS [``next_item, ``next_end, ``list_append_ok]
                                refine en_pack' hk [0, 1, 2, 3, 4, 5, 6, 7, 8, 9] _ (by kernel_rfl) rfl (fun ρ' => ih x _ (i + 1) (Value.ref a2) ws n vs2 ⟨⟨done ++ [(j, true, t)], hdr', by rw [← hdn]; simp, hta, ?_⟩, le'.trans hle⟩ ρ' _)
                                rw [pickT_app]; simpa [pickT] using hws.mono hle
                            | nil =>
                              intro x g' i w wsD1S n vs2 hC ρA tkA
                              obtain ⟨⟨done, hdr, hdn, hta, hwsD1S⟩, le'⟩ := hC
                              have leTD1S := hleD1S.trans le'
                              cases hta
                              rw [List.append_nil] at hdn
                              subst hdn
                              have hx := drop_end hdr
                              clear hdr
                              have hK' := hK0.mono leTD1S
                              have hW' := hW0.mono leTD1S
                              have q1 := leTD1S _ _ i1
                              have q2 := leTD1S _ _ i2
                              have q1' := leTD1S _ _ i1'
                              have q2' := leTD1S _ _ i2'
                              have q3 := leTD1S _ _ hv0
                              have q4 := leTD1S _ _ hc0
                              have q5 := leTD1S _ _ e1
                              have q6 := leTD1S _ _ e2
                              have q7 := leTD1S _ _ e1'
                              have q8 := leTD1S _ _ e2'
                              have fv := le' _ _ fVD1S
                              have cL1 := cLo.mono le'
                              have cO1 := cO.mono le'
                              have hne1 := pickT_ne k1 L1
                              have l40a1 : wsD0S.length ≤ 40 := by rw [hwsD0S.len]; have := pickT_len true (k1 :: L1); have := hw1.len; simp only [List.length_cons] at *; omega
                              have l40b1 : wsD1S.length ≤ 40 := by rw [hwsD1S.len]; have := pickT_len false (k1 :: L1); have := hw1.len; simp only [List.length_cons] at *; omega
                              have zo_ := opt_or (solveOne W (pickT true (k1 :: L1)) (pickT false (k1 :: L1)))
                              cases zo_ with
                              | inl hO1 =>
                                have eS0 : sol W (sel 0 (kc :: kcs)) = some t0 := by rw [hL0]; exact hO0
                                have eS1 : sol W (sel 1 (kc :: kcs)) = none := by rw [hL1]; exact hO1
                                run_tac walkS [``next_item, ``next_end, ``solve_none, ``pre_ok]
                                all_goals
                                  refine K _ _ _ _ _ (leTD1S.trans hle) ?_
                                  refine ⟨_, _, _, _, rfl, by assumption, ?_, ?_, ?_, ?_⟩
                                  · rw [eS0]; assumption
                                  · rw [eS1]; exact rfl
                                  · rw [eS0]; assumption
                                  · rw [eS1]; exact .no
                              | inr zo2_ =>
                                obtain ⟨t1, hO1⟩ := zo2_
                                have eS0 : sol W (sel 0 (kc :: kcs)) = some t0 := by rw [hL0]; exact hO0
                                have eS1 : sol W (sel 1 (kc :: kcs)) = some t1 := by rw [hL1]; exact hO1
                                run_tac walkS [``next_item, ``next_end, ``solve_some, ``pre_ok]
                                all_goals
                                  refine K _ _ _ _ _ (leTD1S.trans hle) ?_
                                  refine ⟨_, _, _, _, rfl, by assumption, ?_, ?_, ?_, ?_⟩
                                  · rw [eS0]; assumption
                                  · rw [eS1]; assumption
                                  · rw [eS0]; assumption
                                  · rw [eS1]; assumption
end Mine

/-! L2 -/
namespace Mine
open PySem PySem.W PySem.W.X
def infosL (W : Wo) : List Value := [.ref (W.I 0), .ref (W.I 1), .ref (W.I 2), .ref (W.I 3), .ref (W.I 4), .ref (W.I 5), .ref (W.I 6)]
def typeSpec (y : Wd) (W : Wo) (n : Nat) : Prop := ∀ (t : PT) (g0 : Gm) (a il vl m q : Nat) (d u : Nat), t.tr → t.dep ≤ n → n ≤ 3 → KIn (tops y) g0 → WoIs g0 W → d + (4 * n + 20) < recursionLimit → u + (40 * n + 120) < cLine → PTIs g0 a t →
    g0 il = some (lstO [.ref (W.I 0), .ref (W.I 1), .ref (W.I 2), .ref (W.I 3), .ref (W.I 4), .ref (W.I 5), .ref (W.I 6)] m) → g0 vl = some (lstO [.ref (W.V 0), .ref (W.V 1)] q) →
    Pu (cx y) g0 d u (.call (.ref 1229) ⟨[.ref a, .ref il, .ref vl], []⟩) (fun g' r => ∃ c, r = .ok (.ret (.ref c)) ∧ TyIs g' W c t)
theorem type_leaf (y : Wd) (W : Wo) (c : Nat) (g0 : Gm) (a il vl m q : Nat) (d u : Nat) (ok : (PT.leaf c).tr) (hK0 : KIn (tops y) g0) (hW : WoIs g0 W) (hd : d + 20 < recursionLimit) (hu : u + 120 < cLine) (h : PTIs g0 a (.leaf c))
    (hil : g0 il = some (lstO [.ref (W.I 0), .ref (W.I 1), .ref (W.I 2), .ref (W.I 3), .ref (W.I 4), .ref (W.I 5), .ref (W.I 6)] m)) (hvl : g0 vl = some (lstO [.ref (W.V 0), .ref (W.V 1)] q)) :
    Pu (cx y) g0 d u (.call (.ref 1229) ⟨[.ref a, .ref il, .ref vl], []⟩) (fun g' r => ∃ e, r = .ok (.ret (.ref e)) ∧ TyIs g' W e (.leaf c)) := by
  cases h with
  | @leaf _ c k h =>
  have hc : c = 0 ∨ c = 1 ∨ c = 2 ∨ c = 3 ∨ c = 7 ∨ c = 8 := by simp only [PT.tr] at ok; omega
  refine pu_of fun F ρ0 tk R hk K => ?_
  rcases hc with rfl | rfl | rfl | rfl | rfl | rfl
  all_goals
    run_tac walkL [``mk0_ok]
    all_goals exact K _ _ _ _ _ hle ⟨_, rfl, by first | exact .cls (by omega) (by assumption) (by assumption) (by assumption) | exact .var (j := 0) (by omega) rfl | exact .var (j := 1) (by omega) rfl⟩
theorem type_ok (y : Wd) (W : Wo) : ∀ n, typeSpec y W n := by
  intro n
  induction n with
  | zero =>
    intro t g0 a il vl m q d u ok dp n3 hK hW hd hu h h1 h2
    cases t with
    | leaf c => exact type_leaf y W c g0 a il vl m q d u ok hK hW hd hu h h1 h2
    | un => exact absurd dp (by simp [PT.dep])
    | two => exact absurd dp (by simp [PT.dep])
  | succ n ih =>
    intro t g0 a il vl m q d u ok dp n3 hK0 hW hd0 hu0 h hil hvl
    have hd : d + 24 < recursionLimit := by omega
    have hu : u + 160 < cLine := by omega
    unfold typeSpec at ih
    have n3' : n ≤ 3 := by omega
    cases t with
    | leaf c => exact type_leaf y W c g0 a il vl m q d u ok hK0 hW (by omega) (by omega) h hil hvl
    | un c t =>
      cases h with
      | un h ht =>
      simp only [PT.dep] at dp
      obtain ⟨oc, ot⟩ := ok
      have dp' : t.dep ≤ n := by omega
      rcases oc with rfl | rfl
      all_goals
        refine pu_of fun F ρ0 tk R hk K => ?_
        run_tac walkL [``mk1_ok]
        all_goals exact K _ _ _ _ _ hle ⟨_, rfl, .un (by first | exact .inl rfl | exact .inr rfl) (by assumption) (by assumption) (by assumption) (by assumption)⟩
    | two t s =>
      cases h with
      | two h ht hs =>
      simp only [PT.dep] at dp
      obtain ⟨ot, os⟩ := ok
      have dp' : t.dep ≤ n := by omega
      have dps : s.dep ≤ n := by omega
      refine pu_of fun F ρ0 tk R hk K => ?_
      run_tac walkL [``mk2_ok]
      all_goals exact K _ _ _ _ _ hle ⟨_, rfl, .two (by assumption) (by assumption) (by assumption) (by assumption) (by assumption)⟩
/-! expand_type -/
def PT.exp (f : Nat → PT) : PT → PT
  | .leaf c => if c < 7 then .leaf c else f (c - 7)
  | .un c t => .un c (t.exp f)
  | .two t u => .two (t.exp f) (u.exp f)
/-- the visitor and its dict -/
inductive VisIs : Gm → Wo → Addr → PT → PT → Prop where
  | mk {g : Gm} {W : Wo} {a d e c0 c1 : Addr} {t0 t1 : PT} {h1 : Int} {k1 n m : Nat} : g a = some (ins 613 d) → g d = some (dct [key h1 k1 "variables" (.ref e)] n) → g e = some (dct [⟨1, .ref (W.vi 0), .ref c0⟩, ⟨2, .ref (W.vi 1), .ref c1⟩] m) → TyIs g W c0 t0 → TyIs g W c1 t1 → VisIs g W a t0 t1
theorem VisIs.mono {g g' : Gm} {W : Wo} {a : Addr} {t0 t1 : PT} (l : Le g g') (h : VisIs g W a t0 t1) : VisIs g' W a t0 t1 := by
  cases h with | mk a b c d e => exact .mk (l _ _ a) (l _ _ b) (l _ _ c) (d.mono l) (e.mono l)
def pick2 (t0 t1 : PT) : Nat → PT
  | 0 => t0
  | _ => t1
def accSpec (y : Wd) (W : Wo) (n : Nat) : Prop := ∀ (t t0 t1 : PT) (g0 : Gm) (a b : Addr) (d u : Nat), t.tr → t.dep ≤ n → n ≤ 3 → KIn (tops y) g0 → WoIs g0 W → d + (8 * n + 30) < recursionLimit → u + (60 * n + 160) < cLine → TyIs g0 W a t → VisIs g0 W b t0 t1 → (t.inst = true) →
    Pu (cx y) g0 d u (.call (.ref 596) ⟨[.ref b, .ref a], []⟩) (fun g' r => ∃ c, r = .ok (.ret (.ref c)) ∧ TyIs g' W c (t.exp (pick2 t0 t1)))
theorem visv_ok (y : Wd) (W : Wo) (j : Nat) (j2 : j < 2) (t0 t1 : PT) (g0 : Gm) (b : Addr) (d u : Nat) (hK0 : KIn (tops y) g0) (hW : WoIs g0 W) (hd : d + 20 < recursionLimit) (hu : u + 120 < cLine) (hb : VisIs g0 W b t0 t1) :
    Pu (cx y) g0 d u (.call (.ref 603) ⟨[.ref b, .ref (W.V j)], []⟩) (fun g' r => ∃ c, r = .ok (.ret (.ref c)) ∧ TyIs g' W c (pick2 t0 t1 j)) := by
  have vne := hW.vi_ne
  have vne' : W.vi 1 ≠ W.vi 0 := fun e => vne e.symm
  have zz_ := (hW.vars 0 (by omega)).1
  cases zz_ with | mk e1 e2 e3 =>
  have zz_ := (hW.vars 0 (by omega)).2
  cases zz_ with | mk i1 i2 =>
  have zz_ := (hW.vars 1 (by omega)).1
  cases zz_ with | mk e1' e2' e3' =>
  have zz_ := (hW.vars 1 (by omega)).2
  cases zz_ with | mk i1' i2' =>
  cases hb with | mk b1 b2 b3 b4 b5 =>
  have hj : j = 0 ∨ j = 1 := by omega
  refine pu_of fun F ρ0 tk R hk K => ?_
  rcases hj with rfl | rfl
  all_goals
    run_tac walkL
    all_goals exact K _ _ _ _ _ hle ⟨_, rfl, by assumption⟩
open Lean Elab Tactic in
def walkE (specs : List Name := []) (fuel : Nat := 3000) : TacticM Unit :=
  walkTac specs (do evalTactic (← `(tactic| first | assumption | rfl | omega | exact VisIs.mk (by assumption) (by assumption) (by assumption) (by assumption) (by assumption)))) fuel
theorem PT.tr_vi {t : PT} (h : t.tr) : (∃ j, j < 2 ∧ t = .leaf (7 + j)) ∨ t.inst = true := by
  cases t with
  | leaf c =>
    rcases h with h | h | h
    · exact .inr (by simpa [PT.inst] using h)
    · exact .inl ⟨0, by omega, by rw [h]⟩
    · exact .inl ⟨1, by omega, by rw [h]⟩
  | un => exact .inr rfl
  | two => exact .inr rfl
theorem exp_var (f : Nat → PT) (j : Nat) : (PT.leaf (7 + j)).exp f = f j := by
  show (if 7 + j < 7 then _ else f (7 + j - 7)) = _
  rw [if_neg (by omega), show 7 + j - 7 = j by omega]
theorem acc_ok (y : Wd) (W : Wo) : ∀ n, accSpec y W n := by
  intro n
  induction n with
  | zero =>
    intro t t0 t1 g0 a b d u ok dp n3 hK0 hW hd0 hu0 ha hb hi
    have hd : d + 30 < recursionLimit := by omega
    have hu : u + 160 < cLine := by omega
    cases t with
    | leaf c =>
      have c4 : c < 4 := by simpa [PT.inst] using hi
      have zz_ := ha.cls_inv c4
      obtain ⟨_, _, _, _, _, _, _, f1, f2, f3⟩ := zz_
      have e : (PT.leaf c).exp (pick2 t0 t1) = .leaf c := by show (if _ then _ else _) = _; rw [if_pos (by omega)]
      rw [e]
      refine pu_of fun F ρ0 tk R hk K => ?_
      run_tac walkL
      all_goals exact K _ _ _ _ _ hle ⟨_, rfl, ha.mono hle⟩
    | un => exact absurd dp (by simp [PT.dep])
    | two => exact absurd dp (by simp [PT.dep])
  | succ n ih =>
    intro t t0 t1 g0 a b d u ok dp n3 hK0 hW hd0 hu0 ha hb hi
    have hd : d + 38 < recursionLimit := by omega
    have hu : u + 220 < cLine := by omega
    unfold accSpec at ih
    have n3' : n ≤ 3 := by omega
    have hb0 := hb
    cases hb0 with | mk b1 b2 b3 b4 b5 =>
    have zz_ := (hW.vars 0 (by omega)).1
    cases zz_ with | mk e1 e2 e3 =>
    have zz_ := (hW.vars 1 (by omega)).1
    cases zz_ with | mk e1' e2' e3' =>
    cases t with
    | leaf c =>
      have c4 : c < 4 := by simpa [PT.inst] using hi
      have zz_ := ha.cls_inv c4
      obtain ⟨_, _, _, _, _, _, _, f1, f2, f3⟩ := zz_
      have e : (PT.leaf c).exp (pick2 t0 t1) = .leaf c := by show (if _ then _ else _) = _; rw [if_pos (by omega)]
      rw [e]
      refine pu_of fun F ρ0 tk R hk K => ?_
      run_tac walkL
      all_goals exact K _ _ _ _ _ hle ⟨_, rfl, ha.mono hle⟩
    | un c t =>
      have zz_ := ha.un_inv
      obtain ⟨hc, _, _, x, _, _, _, _, _, f1, f2, f3, hx⟩ := zz_
      simp only [PT.dep] at dp
      have ot := ok.2
      have dp' : t.dep ≤ n := by omega
      have zz_ := PT.tr_vi ot
      rcases zz_ with ⟨j, j2, rfl⟩ | ti
      · have q := hx.var_inv (by omega)
        rw [show 7 + j - 7 = j by omega] at q
        subst q
        show Pu _ _ _ _ _ (fun g' r => ∃ e, r = .ok (.ret (.ref e)) ∧ TyIs g' W e (.un c ((PT.leaf (7 + j)).exp (pick2 t0 t1))))
        rw [exp_var]
        have hj : j = 0 ∨ j = 1 := by omega
        rcases hj with rfl | rfl <;> rcases hc with rfl | rfl
        all_goals
          refine pu_of fun F ρ0 tk R hk K => ?_
          run_tac walkL [``visv_ok, ``mk1_ok]
          all_goals exact K _ _ _ _ _ hle ⟨_, rfl, .un (by first | exact .inl rfl | exact .inr rfl) (by assumption) (by assumption) (by assumption) (by assumption)⟩
      · have zz_ := hx.inst_inv ti
        obtain ⟨_, _, _, _, _, _, _, _, x1, x2, _⟩ := zz_
        rcases hc with rfl | rfl
        all_goals
          refine pu_of fun F ρ0 tk R hk K => ?_
          run_tac walkL [``mk1_ok]
          all_goals exact K _ _ _ _ _ hle ⟨_, rfl, .un (by first | exact .inl rfl | exact .inr rfl) (by assumption) (by assumption) (by assumption) (by assumption)⟩
    | two t s =>
      have zz_ := ha.two_inv
      obtain ⟨_, _, x, z, _, _, _, _, _, f1, f2, f3, hx, hz⟩ := zz_
      simp only [PT.dep] at dp
      have ot := ok.1
      have os := ok.2
      have dp' : t.dep ≤ n := by omega
      have dps : s.dep ≤ n := by omega
      show Pu _ _ _ _ _ (fun g' r => ∃ e, r = .ok (.ret (.ref e)) ∧ TyIs g' W e (.two (t.exp (pick2 t0 t1)) (s.exp (pick2 t0 t1))))
      have zz_ := PT.tr_vi ot
      rcases zz_ with ⟨j, j2, rfl⟩ | ti
      · have q := hx.var_inv (by omega)
        rw [show 7 + j - 7 = j by omega] at q
        subst q
        rw [exp_var]
        have zz_ := PT.tr_vi os
        rcases zz_ with ⟨i, i2, rfl⟩ | si
        · have q := hz.var_inv (by omega)
          rw [show 7 + i - 7 = i by omega] at q
          subst q
          rw [exp_var]
          have hji : (j = 0 ∧ i = 0) ∨ (j = 0 ∧ i = 1) ∨ (j = 1 ∧ i = 0) ∨ (j = 1 ∧ i = 1) := by omega
          rcases hji with ⟨rfl, rfl⟩ | ⟨rfl, rfl⟩ | ⟨rfl, rfl⟩ | ⟨rfl, rfl⟩
          all_goals
            refine pu_of fun F ρ0 tk R hk K => ?_
            run_tac walkL [``visv_ok, ``mk2_ok]
            all_goals exact K _ _ _ _ _ hle ⟨_, rfl, .two (by assumption) (by assumption) (by assumption) (by assumption) (by assumption)⟩
        · have zz_ := hz.inst_inv si
          obtain ⟨_, _, _, _, _, _, _, _, z1, z2, _⟩ := zz_
          have hj : j = 0 ∨ j = 1 := by omega
          rcases hj with rfl | rfl
          all_goals
            refine pu_of fun F ρ0 tk R hk K => ?_
            run_tac walkL [``visv_ok, ``mk2_ok]
            all_goals exact K _ _ _ _ _ hle ⟨_, rfl, .two (by assumption) (by assumption) (by assumption) (by assumption) (by assumption)⟩
      · have zz_ := hx.inst_inv ti
        obtain ⟨_, _, _, _, _, _, _, _, x1, x2, _⟩ := zz_
        have zz_ := PT.tr_vi os
        rcases zz_ with ⟨i, i2, rfl⟩ | si
        · have q := hz.var_inv (by omega)
          rw [show 7 + i - 7 = i by omega] at q
          subst q
          rw [exp_var]
          have hi : i = 0 ∨ i = 1 := by omega
          rcases hi with rfl | rfl
          all_goals
            refine pu_of fun F ρ0 tk R hk K => ?_
            run_tac walkL [``visv_ok, ``mk2_ok]
            all_goals exact K _ _ _ _ _ hle ⟨_, rfl, .two (by assumption) (by assumption) (by assumption) (by assumption) (by assumption)⟩
        · have zz_ := hz.inst_inv si
          obtain ⟨_, _, _, _, _, _, _, _, z1, z2, _⟩ := zz_
          refine pu_of fun F ρ0 tk R hk K => ?_
          run_tac walkL [``mk2_ok]
          all_goals exact K _ _ _ _ _ hle ⟨_, rfl, .two (by assumption) (by assumption) (by assumption) (by assumption) (by assumption)⟩
/-- expand_type -/
theorem expand_ok (y : Wd) (W : Wo) (t t0 t1 : PT) (g0 : Gm) (a e c0 c1 m : Nat) (d u : Nat) (ot : t.tr) (dt : t.dep ≤ 3) (hK0 : KIn (tops y) g0) (hW : WoIs g0 W) (hd : d + 70 < recursionLimit) (hu : u + 450 < cLine) (ha : TyIs g0 W a t)
    (he : g0 e = some (dct [⟨1, .ref (W.vi 0), .ref c0⟩, ⟨2, .ref (W.vi 1), .ref c1⟩] m)) (h0 : TyIs g0 W c0 t0) (h1 : TyIs g0 W c1 t1) :
    Pu (cx y) g0 d u (.call (.ref 568) ⟨[.ref a, .ref e], []⟩) (fun g' r => ∃ c, r = .ok (.ret (.ref c)) ∧ TyIs g' W c (t.exp (pick2 t0 t1))) := by
  have ac := acc_ok y W 3
  unfold accSpec at ac
  have zz_ := (hW.vars 0 (by omega)).1
  cases zz_ with | mk e1 e2 e3 =>
  have zz_ := (hW.vars 1 (by omega)).1
  cases zz_ with | mk e1' e2' e3' =>
  have zz_ := PT.tr_vi ot
  rcases zz_ with ⟨j, j2, rfl⟩ | ti
  · have q := ha.var_inv (by omega)
    rw [show 7 + j - 7 = j by omega] at q
    subst q
    rw [exp_var]
    have hj : j = 0 ∨ j = 1 := by omega
    rcases hj with rfl | rfl
    all_goals
      refine pu_of fun F ρ0 tk R hk K => ?_
      run_tac walkE [``visv_ok]
      all_goals exact K _ _ _ _ _ hle ⟨_, rfl, by assumption⟩
  · have zz_ := ha.inst_inv ti
    obtain ⟨_, _, _, _, _, _, _, _, x1, x2, _⟩ := zz_
    refine pu_of fun F ρ0 tk R hk K => ?_
    run_tac walkE
    all_goals exact K _ _ _ _ _ hle ⟨_, rfl, by assumption⟩
end Mine

/-! L3 -/
namespace Mine
open PySem PySem.W PySem.W.X
def PT.isL (c : Nat) : PT → Bool
  | .leaf k => k == c
  | _ => false
theorem tupeq_ok (y : Wd) (c : Nat) (hc : c = 0 ∨ c = 9) (t : PT) (g0 : Gm) (a b : Addr) (k : Nat) (d u : Nat) (ht : t.ty) (hK0 : KIn (tops y) g0) (hd : d + 9 < recursionLimit) (hu : u + 60 < cLine) (ha : PTIs g0 a t) (hb : g0 b = some (tupO [.int c k])) :
    Pu (cx y) g0 d u (.call (.builtin "tuple.__eq__") ⟨[.ref a, .ref b], []⟩) (fun g' r => r = .ok (.ret (.bool (t.isL c)))) := by
  cases ha with
  | @leaf _ e k' h =>
    have he : e = 0 ∨ e = 1 ∨ e = 2 ∨ e = 3 ∨ e = 9 := by simp only [PT.ty] at ht; omega
    refine pu_of fun F ρ0 tk R hk K => ?_
    rcases hc with rfl | rfl <;> rcases he with rfl | rfl | rfl | rfl | rfl
    all_goals
      run_tac walkL
      all_goals exact K _ _ _ _ _ hle rfl
  | un h hx =>
    refine pu_of fun F ρ0 tk R hk K => ?_
    rcases hc with rfl | rfl <;> rcases ht.1 with rfl | rfl
    all_goals
      run_tac walkL
      all_goals exact K _ _ _ _ _ hle rfl
  | two h hx hz =>
    refine pu_of fun F ρ0 tk R hk K => ?_
    rcases hc with rfl | rfl
    all_goals
      run_tac walkL
      all_goals exact K _ _ _ _ _ hle rfl
theorem tupeq_yes (y : Wd) (c : Nat) (t : PT) (g0 : Gm) (a b : Addr) (k : Nat) (d u : Nat) (hK0 : KIn (tops y) g0) (hd : d + 9 < recursionLimit) (hu : u + 60 < cLine) (hb : g0 b = some (tupO [.int c k])) (ha : PTIs g0 a t) (ht : t.ty) (hc : c = 0 ∨ c = 9) (e : t = .leaf c) :
    Pu (cx y) g0 d u (.call (.builtin "tuple.__eq__") ⟨[.ref a, .ref b], []⟩) (fun g' r => r = .ok (.ret (.bool true))) := by
  refine (tupeq_ok y c hc t g0 a b k d u ht hK0 hd hu ha hb).mono ?_
  rintro g' r le rfl
  rw [e]; simp [PT.isL]
theorem tupeq_no (y : Wd) (c : Nat) (t : PT) (g0 : Gm) (a b : Addr) (k : Nat) (d u : Nat) (hK0 : KIn (tops y) g0) (hd : d + 9 < recursionLimit) (hu : u + 60 < cLine) (hb : g0 b = some (tupO [.int c k])) (ha : PTIs g0 a t) (ht : t.ty) (hc : c = 0 ∨ c = 9) (e : t ≠ .leaf c) :
    Pu (cx y) g0 d u (.call (.builtin "tuple.__eq__") ⟨[.ref a, .ref b], []⟩) (fun g' r => r = .ok (.ret (.bool false))) := by
  refine (tupeq_ok y c hc t g0 a b k d u ht hK0 hd hu ha hb).mono ?_
  rintro g' r le rfl
  have : t.isL c = false := by
    cases t with
    | leaf x => simp only [PT.isL, beq_eq_false_iff_ne]; rintro rfl; exact e rfl
    | un => rfl
    | two => rfl
  rw [this]
inductive IntsL : List Value → List Nat → Prop where
  | nil : IntsL [] []
  | cons {vs : List Value} {ns : List Nat} {n t : Nat} : IntsL vs ns → IntsL (.int n t :: vs) (n :: ns)
def isIntV (c : Nat) : Value → Bool
  | .int n _ => n == (c : Int)
  | _ => false
theorem IntsL.any {vs : List Value} {ns : List Nat} (h : IntsL vs ns) (c : Nat) : vs.any (isIntV c) = ns.contains c := by
  induction h with
  | nil => rfl
  | cons _ ih =>
    rw [List.any_cons, ih, List.contains_cons]
    congr 1
    simp only [isIntV]
    rw [Bool.eq_iff_iff]
    simp only [beq_iff_eq]
    omega
theorem IntsL.mem {vs : List Value} {ns : List Nat} (h : IntsL vs ns) : ∀ y ∈ vs, ∃ n t, y = .int n t := by
  induction h with
  | nil => intro y hm; cases hm
  | cons _ ih =>
    intro y hm
    have zz_ := List.mem_cons.mp hm
    rcases zz_ with rfl | hm
    · exact ⟨_, _, rfl⟩
    · exact ih y hm
open PySem.Calls PyProof.Rows in
theorem int_in_ok (X : Cx) (g : Gm) (d u : Nat) (a : Addr) (vs : List Value) (ns : List Nat) (c k m : Nat) (ha : g a = some (lstO vs m)) (hv : IntsL vs ns) :
    Pu X g d u (.call (.builtin "list.__contains__") ⟨[.ref a, .int c k], []⟩) (fun g' r => ∃ bl, r = .ok (.ret (.bool bl)) ∧ Says bl (ns.contains c)) := fun h tk hg R K => by
  have hol := hg _ _ ha
  have he : ∀ y, y ∈ (⟨vs⟩ : Array Value) → SeqAt.EqAt (Ar d u).in1 (X.sh h tk) y (.int c k) (isIntV c y) := by
    intro y hy
    have hm : y ∈ vs := by simpa using hy
    have : ∃ n t, y = .int n t := hv.mem y hm
    obtain ⟨n, t, rfl⟩ := this
    exact SeqAt.EqAt.int_int (A := (Ar d u).in1) (s := X.sh h tk) n t c k
  refine codeAny_meets F.slot_list_contains (Heap.IsList.typeIs ⟨_, hol, rfl, m, rfl⟩) F.entry_list_contains (F.args_list_contains_2 _ _) (SeqAt.list_containsAt a ⟨vs⟩ m none #[] (.int c k) (isIntV c)) ⟨hol, he, ?_⟩
  have e : (⟨vs⟩ : Array Value).any (isIntV c) = ns.contains c := by
    rw [← hv.any]; simp only [List.any_toArray]
  rw [e]
  exact K g h tk _ (Le.refl g) hg (fun _ _ q => q) (Nat.le_refl _) (fun _ _ => rfl) ⟨_, rfl, rfl⟩
/-- the law's table of what is above -/
inductive AbIs : Gm → Wo → Addr → Prop where
  | mk {g : Gm} {W : Wo} {a l0 l1 l2 l3 m m0 m1 m2 m3 : Nat} {v0 v1 v2 v3 : List Value} : g a = some (lstO [.ref l0, .ref l1, .ref l2, .ref l3] m) → g l0 = some (lstO v0 m0) → g l1 = some (lstO v1 m1) → g l2 = some (lstO v2 m2) → g l3 = some (lstO v3 m3) →
      IntsL v0 (W.mro 0) → IntsL v1 (W.mro 1) → IntsL v2 (W.mro 2) → IntsL v3 (W.mro 3) → AbIs g W a
theorem AbIs.mono {g g' : Gm} {W : Wo} {a : Addr} (l : Le g g') (h : AbIs g W a) : AbIs g' W a := by
  cases h with | mk a b c d e f g h i => exact .mk (l _ _ a) (l _ _ b) (l _ _ c) (l _ _ d) (l _ _ e) f g h i
theorem PTIs.hd_inv {g : Gm} {a : Addr} {t : PT} (h : PTIs g a t) : ∃ vs k, g a = some (tupO (.int t.hd k :: vs)) := by
  cases h with
  | leaf e => exact ⟨_, _, e⟩
  | un e _ => exact ⟨_, _, e⟩
  | two e _ _ => exact ⟨_, _, e⟩
theorem ParOk.hi {W : Wo} (h : ParOk W) {a b : Nat} (ha : a < 4) (hb : 4 ≤ b) : (W.mro a).contains b = false := by
  rw [h.mro (by omega)]
  have z : ∀ p2, p2 < 2 → ∀ p3, p3 < 3 → ∀ a, a < 4 → ((mkW p2 p3).mro a).all (fun x => decide (x < 4)) = true := by decide +kernel
  have := List.all_eq_true.mp (z _ h.p2 _ h.p3 a ha)
  cases e : ((mkW (W.par 2) (W.par 3)).mro a).contains b with
  | false => rfl
  | true =>
    have := this b (by simpa using e)
    simp only [decide_eq_true_eq] at this
    omega
def belowSpec (y : Wd) (W : Wo) (n : Nat) : Prop := ∀ (s t : PT) (g0 : Gm) (a b ab : Addr) (d u : Nat), s.ty → t.ty → s.dep ≤ n → t.dep ≤ n → KIn (tops y) g0 → ParOk W → d + (4 * n + 14) < recursionLimit → u + (40 * n + 100) < cLine → PTIs g0 a s → PTIs g0 b t → AbIs g0 W ab →
    Pu (cx y) g0 d u (.call (.ref 1224) ⟨[.ref a, .ref b, .ref ab], []⟩) (fun g' r => ∃ bl, r = .ok (.ret (.bool bl)) ∧ Says bl (s.sub W t))
/-- the cases without a call of its own -/
theorem below_base (y : Wd) (W : Wo) (s t : PT) (g0 : Gm) (a b ab : Addr) (d u : Nat) (sty : s.ty) (tty : t.ty) (hK0 : KIn (tops y) g0) (hP : ParOk W) (hd : d + 14 < recursionLimit) (hu : u + 100 < cLine) (ha : PTIs g0 a s) (hb : PTIs g0 b t) (hab : AbIs g0 W ab) (q : t = .leaf 0 ∨ s = .leaf 9 ∨ (∃ k, k < 4 ∧ s = .leaf k)) :
    Pu (cx y) g0 d u (.call (.ref 1224) ⟨[.ref a, .ref b, .ref ab], []⟩) (fun g' r => ∃ bl, r = .ok (.ret (.bool bl)) ∧ Says bl (s.sub W t)) := by
  have e0 : (0 : Nat) = 0 ∨ (0 : Nat) = 9 := .inl rfl
  have e9 : (9 : Nat) = 0 ∨ (9 : Nat) = 9 := .inr rfl
  have zz_ := hb.hd_inv
  obtain ⟨tv, tk0, hb1⟩ := zz_
  have zz_ := ha.hd_inv
  obtain ⟨tv', tk0', ha1⟩ := zz_
  by_cases t0 : t = .leaf 0
  · have : s.sub W t = true := by
      subst t0
      cases s with
      | leaf k =>
        rcases sty with h | rfl
        · rw [sub_ll _ _ _ (by omega)]; exact hP.top (by omega)
        · exact sub_9 ..
      | un => simp [PT.sub]
      | two => simp [PT.sub]
    rw [this]
    refine pu_of fun F ρ0 tk R hk K => ?_
    run_tac walkL [``tupeq_yes]
    all_goals exact K _ _ _ _ _ hle ⟨_, rfl, rfl⟩
  by_cases s9 : s = .leaf 9
  · have : s.sub W t = true := by subst s9; exact sub_9 ..
    rw [this]
    refine pu_of fun F ρ0 tk R hk K => ?_
    run_tac walkL [``tupeq_no, ``tupeq_yes]
    all_goals exact K _ _ _ _ _ hle ⟨_, rfl, rfl⟩
  rcases q with h | h | ⟨k, k4, rfl⟩
  · exact absurd h t0
  · exact absurd h s9
  · have e : (PT.leaf k).sub W t = (W.mro k).contains t.hd := by
      cases t with
      | leaf b => rw [sub_ll _ _ _ (by omega)]; rfl
      | un c t =>
        have : (PT.leaf k).sub W (.un c t) = false := by simp [PT.sub]; omega
        rw [this]; exact (hP.hi k4 (by rcases tty.1 with rfl | rfl <;> simp [PT.hd])).symm
      | two t u =>
        have : (PT.leaf k).sub W (.two t u) = false := by simp [PT.sub]; omega
        rw [this]; exact (hP.hi k4 (by simp [PT.hd])).symm
    rw [e]
    cases hab with
    | mk a0 a1 a2 a3 a4 i0 i1 i2 i3 =>
    have hk4 : k = 0 ∨ k = 1 ∨ k = 2 ∨ k = 3 := by omega
    refine pu_of fun F ρ0 tk R hk K => ?_
    rcases hk4 with rfl | rfl | rfl | rfl
    all_goals
      run_tac walkL [``tupeq_no, ``int_in_ok]
      all_goals exact K _ _ _ _ _ hle ⟨_, rfl, by assumption⟩
theorem below_ne (y : Wd) (W : Wo) (s t : PT) (g0 : Gm) (a b ab : Addr) (d u : Nat) (sty : s.ty) (tty : t.ty) (hK0 : KIn (tops y) g0) (hd : d + 14 < recursionLimit) (hu : u + 100 < cLine) (ha : PTIs g0 a s) (hb : PTIs g0 b t) (hs : s.hd = 4 ∨ s.hd = 5 ∨ s.hd = 6) (ne : s.hd ≠ t.hd) (t0 : t ≠ .leaf 0) (s9 : s ≠ .leaf 9) :
    Pu (cx y) g0 d u (.call (.ref 1224) ⟨[.ref a, .ref b, .ref ab], []⟩) (fun g' r => r = .ok (.ret (.bool false))) := by
  have e0 : (0 : Nat) = 0 ∨ (0 : Nat) = 9 := .inl rfl
  have e9 : (9 : Nat) = 0 ∨ (9 : Nat) = 9 := .inr rfl
  have zz_ := hb.hd_inv
  obtain ⟨tv, tk0, hb1⟩ := zz_
  have zz_ := ha.hd_inv
  obtain ⟨tv', tk0', ha1⟩ := zz_
  generalize s.hd = sh at ha1 hs ne
  generalize t.hd = th at hb1 ne
  have ne1 : ¬ ((sh : Int) = (th : Int)) := by omega
  have ne2 : ¬ ((th : Int) = (sh : Int)) := by omega
  refine pu_of fun F ρ0 tk R hk K => ?_
  rcases hs with rfl | rfl | rfl
  all_goals
    run_tac walkL [``tupeq_no]
    all_goals exact K _ _ _ _ _ hle rfl
theorem below_ok (y : Wd) (W : Wo) : ∀ n, belowSpec y W n := by
  intro n
  induction n with
  | zero =>
    intro s t g0 a b ab d u sty tty ds dt hK hP hd hu ha hb hab
    refine below_base y W s t g0 a b ab d u sty tty hK hP hd hu ha hb hab ?_
    have zz_ := PT.z_cases sty ds
    rcases zz_ with h | h
    · exact .inr (.inl h)
    · exact .inr (.inr h)
  | succ n ih =>
    intro s t g0 a b ab d u sty tty ds dt hK0 hP hd0 hu0 ha hb hab
    by_cases q : t = .leaf 0 ∨ s = .leaf 9 ∨ (∃ k, k < 4 ∧ s = .leaf k)
    · exact below_base y W s t g0 a b ab d u sty tty hK0 hP (by omega) (by omega) ha hb hab q
    have t0 : t ≠ .leaf 0 := fun e => q (.inl e)
    have s9 : s ≠ .leaf 9 := fun e => q (.inr (.inl e))
    have e0 : (0 : Nat) = 0 ∨ (0 : Nat) = 9 := .inl rfl
    have e9 : (9 : Nat) = 0 ∨ (9 : Nat) = 9 := .inr rfl
    have hd : d + 18 < recursionLimit := by omega
    have hu : u + 140 < cLine := by omega
    unfold belowSpec at ih
    cases s with
    | leaf c => rcases sty with h | rfl
                · exact absurd (.inr (.inr ⟨c, h, rfl⟩)) q
                · exact absurd rfl s9
    | un c s =>
      have ne : ∀ t : PT, t.ty → PTIs g0 b t → t ≠ .leaf 0 → c ≠ t.hd → Pu (cx y) g0 d u (.call (.ref 1224) ⟨[.ref a, .ref b, .ref ab], []⟩) (fun g' r => ∃ bl, r = .ok (.ret (.bool bl)) ∧ Says bl ((PT.un c s).sub W t)) := fun t tty hb t0 ne => by
        refine (below_ne y W (.un c s) t g0 a b ab d u sty tty hK0 (by omega) (by omega) ha hb (by rcases sty.1 with rfl | rfl <;> simp [PT.hd]) ne t0 s9).mono ?_
        rintro g' r le rfl
        refine ⟨_, rfl, ?_⟩
        cases t with
        | leaf k => have : k ≠ 0 := fun e => t0 (by rw [e]); simp [PT.sub, Says, this]
        | un k t => have : c ≠ k := ne; simp [PT.sub, Says, this]
        | two t u => simp [PT.sub, Says]
      cases t with
      | leaf k => exact ne _ tty hb t0 (by rcases sty.1 with rfl | rfl <;> simp only [PT.hd, PT.ty] at * <;> omega)
      | two t u => exact ne _ tty hb t0 (by rcases sty.1 with rfl | rfl <;> simp [PT.hd])
      | un k t =>
        by_cases ck : c = k
        · subst ck
          have pa := ha
          have pb := hb
          cases ha with
          | un h hx =>
          cases hb with
          | un h' hx' =>
          simp only [PT.dep] at ds dt
          have ds' : s.dep ≤ n := by omega
          have dt' : t.dep ≤ n := by omega
          have sy := sty.2
          have ty_ := tty.2
          have zz_ := sty.1
          rcases zz_ with rfl | rfl
          · have e : (PT.un 4 s).sub W (.un 4 t) = s.sub W t := by simp [PT.sub]
            rw [e]
            refine pu_of fun F ρ0 tk R hk K => ?_
            run_tac walkL [``tupeq_no]
            all_goals exact K _ _ _ _ _ hle ⟨_, rfl, by assumption⟩
          · have e : (PT.un 5 s).sub W (.un 5 t) = t.sub W s := by simp [PT.sub]
            rw [e]
            refine pu_of fun F ρ0 tk R hk K => ?_
            run_tac walkL [``tupeq_no]
            all_goals exact K _ _ _ _ _ hle ⟨_, rfl, by assumption⟩
        · exact ne _ tty hb t0 ck
    | two s s' =>
      have ne : ∀ t : PT, t.ty → PTIs g0 b t → t ≠ .leaf 0 → 6 ≠ t.hd → Pu (cx y) g0 d u (.call (.ref 1224) ⟨[.ref a, .ref b, .ref ab], []⟩) (fun g' r => ∃ bl, r = .ok (.ret (.bool bl)) ∧ Says bl ((PT.two s s').sub W t)) := fun t tty hb t0 ne => by
        refine (below_ne y W (.two s s') t g0 a b ab d u sty tty hK0 (by omega) (by omega) ha hb (by simp [PT.hd]) ne t0 s9).mono ?_
        rintro g' r le rfl
        refine ⟨_, rfl, ?_⟩
        cases t with
        | leaf k => have : k ≠ 0 := fun e => t0 (by rw [e]); simp [PT.sub, Says, this]
        | un k t => simp [PT.sub, Says]
        | two t u => exact absurd rfl ne
      cases t with
      | leaf k => exact ne _ tty hb t0 (by simp only [PT.hd, PT.ty] at *; omega)
      | un k t => exact ne _ tty hb t0 (by rcases tty.1 with rfl | rfl <;> simp [PT.hd])
      | two t t' =>
        have pa := ha
        have pb := hb
        cases ha with
        | two h hx hy =>
        cases hb with
        | two h' hx' hy' =>
        simp only [PT.dep] at ds dt
        have ds1 : s.dep ≤ n := by omega
        have dt1 : t.dep ≤ n := by omega
        have ds2 : s'.dep ≤ n := by omega
        have dt2 : t'.dep ≤ n := by omega
        obtain ⟨sy1, sy2⟩ := sty
        obtain ⟨ty1, ty2⟩ := tty
        have sty : (PT.two s s').ty := ⟨sy1, sy2⟩
        have tty : (PT.two t t').ty := ⟨ty1, ty2⟩
        have e : (PT.two s s').sub W (.two t t') = (s.sub W t && t'.sub W s') := by simp [PT.sub]
        rw [e]
        have fin1 : ∀ b1 b2, b1 = true → Says b1 (s.sub W t) → Says b2 (t'.sub W s') → Says b2 (s.sub W t && t'.sub W s') := fun b1 b2 e h1 h2 => by
          unfold Says at *; rw [← h1, ← h2, e]; rfl
        have fin2 : ∀ b1, b1 = false → Says b1 (s.sub W t) → Says b1 (s.sub W t && t'.sub W s') := fun b1 e h1 => by
          unfold Says at *; rw [← h1, e]; rfl
        have fin3 : ∀ b1, b1 = false → Says b1 (s.sub W t) → Says false (s.sub W t && t'.sub W s') := fun b1 e h1 => by
          unfold Says at *; rw [← h1, e]; rfl
        refine pu_of fun F ρ0 tk R hk K => ?_
        run_tac walkL [``tupeq_no]
        all_goals exact K _ _ _ _ _ hle ⟨_, rfl, by first | exact fin1 _ _ (by assumption) (by assumption) (by assumption) | exact fin2 _ (by assumption) (by assumption) | exact fin3 _ (by assumption) (by assumption)⟩
end Mine

/-! L4 -/
namespace Mine
open PySem PySem.W PySem.W.X PySem.Calls PyProof.Rows
/-! the script's rest, drawn from its end -/
def AllI (xs : List Value) : Prop := ∀ v ∈ xs, ∃ i t, v = Value.int i t
theorem list_len_snocL (X : Cx) (g : Gm) (d u : Nat) (a : Addr) (xs : List Value) (v : Value) (m : Nat) (hz : xs.length ≤ 100000) :
    PuL X g d u (.call (.builtin "list.__len__") ⟨[.ref a], []⟩) a (lstO (xs ++ [v]) m) (fun g' o' r => o' = lstO (xs ++ [v]) m ∧ ∃ n tk, r = .ok (.ret (.int (Int.ofNat (Nat.succ n)) tk)) ∧ ¬ ((2 : Int) ^ 63 ≤ Int.ofNat (Nat.succ n))) := fun h tk hg ho hn R K => by
  refine codeAny_meets slot_list_len (Heap.IsList.typeIs ⟨_, ho, rfl, m, rfl⟩) entry_list_len (args_list_len _) (AutoListH.list___len___list_0 a ⟨xs ++ [v]⟩ m) ⟨ho, ?_⟩
  refine K g h _ _ _ (Le.refl g) hg (fun _ _ _ q => q) ho (Nat.le_refl _) (fun _ _ => rfl) ⟨rfl, xs.length, (X.sh h tk).toks, ?_, by have : (Int.ofNat (Nat.succ xs.length)) = (xs.length : Int) + 1 := rfl; rw [this]; omega⟩
  have e : (⟨xs ++ [v]⟩ : Array Value).size = xs.length + 1 := by simp
  rw [e]; rfl
theorem draw_ok (y : Wd) (g0 : Gm) (d u : Nat) (a : Addr) (xs : List Value) (m top k : Nat) (hK0 : KIn (tops y) g0) (hd : d + 9 < recursionLimit) (hu : u + 60 < cLine) (h0 : 0 < top) (h64 : xs.length ≤ 64) (hi : AllI xs) :
    PuL (cx y) g0 d u (.call (.ref 1191) ⟨[.ref a, .int top k], []⟩) a (lstO xs m) (fun g' o' r => ∃ xs' m' c tk, o' = lstO xs' m' ∧ r = .ok (.ret (.int (c : Nat) tk)) ∧ AllI xs' ∧ xs'.length ≤ 64 ∧ c < top) := by
  have zz_ := List.eq_nil_or_concat xs
  rcases zz_ with rfl | ⟨ys, v, rfl⟩
  · refine pul_of fun F ρ0 tk R hk K => ?_
    run_tac walkL
    all_goals exact K _ _ _ _ _ _ hle rfl ⟨[], _, 0, _, rfl, rfl, hi, by simp, h0⟩
  · have zz_ := hi v (by simp)
    obtain ⟨i, t, rfl⟩ := zz_
    simp only [List.concat_eq_append] at h64 ⊢
    have hn : ¬ ((top : Int) = 0) := by omega
    have hl : ys.length ≤ 100000 := by simp at h64; omega
    have hl2 : (ys ++ [Value.int i t]).length ≤ 100000 := by simp at h64 ⊢; omega
    refine pul_of fun F ρ0 tk R hk K => ?_
    have hy : AllI ys := fun x hx => hi x (by simp [hx])
    have hy64 : ys.length ≤ 64 := by simp at h64; omega
    have hm : Z.modQ i top = ((Z.modQ i top).toNat : Int) ∧ (Z.modQ i top).toNat < top := by
      rw [← Z.modQ_eq]
      have h1 := Int.fmod_nonneg_of_pos i (b := (top : Int)) (by omega)
      have h2 := Int.fmod_lt_of_pos i (b := (top : Int)) (by omega)
      omega
    run_tac walkL [``list_len_snocL, ``list_pop_ok]
    all_goals exact K _ _ _ _ _ _ hle rfl ⟨ys, _, (Z.modQ i top).toNat, _, rfl, by rw [← hm.1], hy, hy64, hm.2⟩
/-! the drawn tree -/
def PT.trW (j : Nat) : PT → Prop
  | .leaf c => c < 4 ∨ c = 7 + j
  | .un c t => (c = 4 ∨ c = 5) ∧ t.trW j
  | .two t u => t.trW j ∧ u.trW j
theorem PT.trW_tr {j : Nat} (hj : j < 2) : ∀ {t : PT}, t.trW j → t.tr
  | .leaf c, h => by simp only [PT.trW, PT.tr] at *; omega
  | .un c t, h => ⟨h.1, PT.trW_tr hj h.2⟩
  | .two t u, h => ⟨PT.trW_tr hj h.1, PT.trW_tr hj h.2⟩
def treeSpec (y : Wd) (n : Nat) : Prop := ∀ (j : Nat) (hj : j < 2) (g0 : Gm) (d u : Nat) (a : Addr) (xs : List Value) (m k k' : Nat) (hK0 : KIn (tops y) g0) (hd : d + (4 * n + 20) < recursionLimit) (hu : u + (40 * n + 160) < cLine) (h64 : xs.length ≤ 64) (hi : AllI xs),
    PuL (cx y) g0 d u (.call (.ref 1198) ⟨[.ref a, .int n k, .int j k'], []⟩) a (lstO xs m) (fun g' o' r => ∃ xs' m' c t, o' = lstO xs' m' ∧ r = .ok (.ret (.ref c)) ∧ AllI xs' ∧ xs'.length ≤ 64 ∧ PTIs g' c t ∧ t.trW j ∧ t.dep ≤ n)
theorem tree0_ok (y : Wd) : treeSpec y 0 := by
  intro j hj g0 d u a xs m k k' hK0 hd0 hu0 h64 hi
  have hd : d + 20 < recursionLimit := by omega
  have hu : u + 160 < cLine := by omega
  have t7 : (0 : Nat) < 7 := by omega
  have t4 : (0 : Nat) < 4 := by omega
  refine pul_of fun F ρ0 tk R hk K => ?_
  have hj' : j = 0 ∨ j = 1 := by omega
  rcases hj' with rfl | rfl
  all_goals
    run_tac walkL [``draw_ok]
    all_goals exact K _ _ _ _ _ _ hle rfl ⟨_, _, _, _, rfl, rfl, by assumption, by assumption, .leaf (by assumption), by first | exact .inl (by assumption) | exact .inr rfl, by simp [PT.dep]⟩
theorem tree1_ok (y : Wd) : treeSpec y 1 := by
  intro j hj g0 d u a xs m k k' hK0 hd0 hu0 h64 hi
  have hd : d + 24 < recursionLimit := by omega
  have hu : u + 200 < cLine := by omega
  have t7 : (0 : Nat) < 7 := by omega
  have t4 : (0 : Nat) < 4 := by omega
  have ih := tree0_ok y
  unfold treeSpec at ih
  refine pul_of fun F ρ0 tk R hk K => ?_
  have hj' : j = 0 ∨ j = 1 := by omega
  rcases hj' with rfl | rfl
  all_goals
    run_tac walkL [``draw_ok]
    all_goals
      refine K _ _ _ _ _ _ hle rfl ?_
      first
        | exact ⟨_, _, _, _, rfl, rfl, by assumption, by assumption, .two (by assumption) (by assumption) (by assumption), ⟨by assumption, by assumption⟩, by simp only [PT.dep]; omega⟩
        | exact ⟨_, _, _, _, rfl, rfl, by assumption, by assumption, .un (by assumption) (by assumption), ⟨by first | exact .inl rfl | exact .inr rfl, by assumption⟩, by simp only [PT.dep]; omega⟩
        | exact ⟨_, _, _, _, rfl, rfl, by assumption, by assumption, .leaf (by assumption), by first | exact .inl (by assumption) | exact .inr rfl, by simp [PT.dep]⟩
theorem tree2_ok (y : Wd) : treeSpec y 2 := by
  intro j hj g0 d u a xs m k k' hK0 hd0 hu0 h64 hi
  have hd : d + 28 < recursionLimit := by omega
  have hu : u + 240 < cLine := by omega
  have t7 : (0 : Nat) < 7 := by omega
  have t4 : (0 : Nat) < 4 := by omega
  have ih := tree1_ok y
  unfold treeSpec at ih
  refine pul_of fun F ρ0 tk R hk K => ?_
  have hj' : j = 0 ∨ j = 1 := by omega
  rcases hj' with rfl | rfl
  all_goals
    run_tac walkL [``draw_ok]
    all_goals
      refine K _ _ _ _ _ _ hle rfl ?_
      first
        | exact ⟨_, _, _, _, rfl, rfl, by assumption, by assumption, .two (by assumption) (by assumption) (by assumption), ⟨by assumption, by assumption⟩, by simp only [PT.dep]; omega⟩
        | exact ⟨_, _, _, _, rfl, rfl, by assumption, by assumption, .un (by assumption) (by assumption), ⟨by first | exact .inl rfl | exact .inr rfl, by assumption⟩, by simp only [PT.dep]; omega⟩
        | exact ⟨_, _, _, _, rfl, rfl, by assumption, by assumption, .leaf (by assumption), by first | exact .inl (by assumption) | exact .inr rfl, by simp [PT.dep]⟩
end Mine

/-! L5 -/
namespace Mine
open PySem PySem.W PySem.W.X PySem.Calls PyProof.Rows
/-! the filled tree -/
def PT.filU : PT → PT → Bool → Prop
  | .leaf c, a, up => if c < 7 then ∃ k, k < 4 ∧ a = .leaf k else if up = true then a.simp else ∃ k, k < 4 ∧ a = .leaf k
  | .un c t, .un k a, up => c = k ∧ t.filU a (if c = 5 then !up else up)
  | .two t u, .two a b, up => t.filU a up ∧ u.filU b (!up)
  | _, _, _ => False
def filSpec (y : Wd) (n : Nat) : Prop := ∀ (t : PT) (up : Bool) (g0 : Gm) (d u : Nat) (a b : Addr) (xs : List Value) (m : Nat), t.tr → t.dep ≤ n → n ≤ 3 → KIn (tops y) g0 → d + (4 * n + 20) < recursionLimit → u + (40 * n + 160) < cLine → xs.length ≤ 64 → AllI xs → PTIs g0 b t →
    PuL (cx y) g0 d u (.call (.ref 1205) ⟨[.ref a, .ref b, .bool up], []⟩) a (lstO xs m) (fun g' o' r => ∃ xs' m' c e, o' = lstO xs' m' ∧ r = .ok (.ret (.ref c)) ∧ AllI xs' ∧ xs'.length ≤ 64 ∧ PTIs g' c e ∧ t.filU e up)
theorem fil_leaf (y : Wd) (c : Nat) (up : Bool) (g0 : Gm) (d u : Nat) (a b : Addr) (xs : List Value) (m : Nat) (ok : (PT.leaf c).tr) (hK0 : KIn (tops y) g0) (hd : d + 20 < recursionLimit) (hu : u + 160 < cLine) (h64 : xs.length ≤ 64) (hi : AllI xs) (hb : PTIs g0 b (.leaf c)) :
    PuL (cx y) g0 d u (.call (.ref 1205) ⟨[.ref a, .ref b, .bool up], []⟩) a (lstO xs m) (fun g' o' r => ∃ xs' m' f e, o' = lstO xs' m' ∧ r = .ok (.ret (.ref f)) ∧ AllI xs' ∧ xs'.length ≤ 64 ∧ PTIs g' f e ∧ (PT.leaf c).filU e up) := by
  have t3 : (0 : Nat) < 3 := by omega
  have t4 : (0 : Nat) < 4 := by omega
  have hb0 := hb
  cases hb with
  | leaf h =>
  have hc : c = 0 ∨ c = 1 ∨ c = 2 ∨ c = 3 ∨ c = 7 ∨ c = 8 := by simp only [PT.tr] at ok; omega
  refine pul_of fun F ρ0 tk R hk K => ?_
  rcases hc with rfl | rfl | rfl | rfl | rfl | rfl <;> cases up
  all_goals
    run_tac walkL [``draw_ok]
    all_goals
      refine K _ _ _ _ _ _ hle rfl ?_
      first
        | exact ⟨_, _, _, _, rfl, rfl, by assumption, by assumption, .un (by assumption) (.leaf (by assumption)), ⟨rfl, by assumption⟩⟩
        | exact ⟨_, _, _, _, rfl, rfl, by assumption, by assumption, .leaf (by assumption), ⟨_, by assumption, rfl⟩⟩
        | exact ⟨_, _, _, _, rfl, rfl, by assumption, by assumption, .leaf (by assumption), by assumption⟩
        | exact ⟨_, _, _, _, rfl, rfl, by assumption, by assumption, hb0.mono hle, ⟨_, by omega, rfl⟩⟩
theorem fil_ok (y : Wd) : ∀ n, filSpec y n := by
  intro n
  induction n with
  | zero =>
    intro t up g0 d u a b xs m ok dp n3 hK hd hu h64 hi hb
    cases t with
    | leaf c => exact fil_leaf y c up g0 d u a b xs m ok hK hd hu h64 hi hb
    | un => exact absurd dp (by simp [PT.dep])
    | two => exact absurd dp (by simp [PT.dep])
  | succ n ih =>
    intro t up g0 d u a b xs m ok dp n3 hK0 hd0 hu0 h64 hi hb
    have hd : d + 24 < recursionLimit := by omega
    have hu : u + 200 < cLine := by omega
    unfold filSpec at ih
    have n3' : n ≤ 3 := by omega
    cases t with
    | leaf c => exact fil_leaf y c up g0 d u a b xs m ok hK0 (by omega) (by omega) h64 hi hb
    | un c t =>
      cases hb with
      | un h ht =>
      simp only [PT.dep] at dp
      obtain ⟨oc, ot⟩ := ok
      have dp' : t.dep ≤ n := by omega
      refine pul_of fun F ρ0 tk R hk K => ?_
      rcases oc with rfl | rfl <;> cases up
      all_goals
        run_tac walkL
        all_goals exact K _ _ _ _ _ _ hle rfl ⟨_, _, _, _, rfl, rfl, by assumption, by assumption, .un (by assumption) (by assumption), ⟨rfl, by assumption⟩⟩
    | two t s =>
      cases hb with
      | two h ht hs =>
      simp only [PT.dep] at dp
      obtain ⟨ot, os⟩ := ok
      have dp' : t.dep ≤ n := by omega
      have dps : s.dep ≤ n := by omega
      refine pul_of fun F ρ0 tk R hk K => ?_
      cases up
      all_goals
        run_tac walkL
        all_goals exact K _ _ _ _ _ _ hle rfl ⟨_, _, _, _, rfl, rfl, by assumption, by assumption, .two (by assumption) (by assumption) (by assumption), ⟨by assumption, by assumption⟩⟩
end Mine

/-! L6 -/
namespace Mine
open PySem PySem.W PySem.W.X
/-! reading the answer -/
theorem read_nev (y : Wd) (W : Wo) (g0 : Gm) (d u : Nat) (a : Addr) (hK0 : KIn (tops y) g0) (hd : d + 20 < recursionLimit) (hu : u + 160 < cLine) (ha : TyIs g0 W a (.leaf 9)) :
    Pu (cx y) g0 d u (.call (.ref 1234) ⟨[.ref a], []⟩) (fun g' r => ∃ c, r = .ok (.ret (.ref c)) ∧ PTIs g' c (.leaf 9)) := by
  have zz_ := ha.nev_inv
  obtain ⟨_, _, _, _, _, q1, q2⟩ := zz_
  refine pu_of fun F ρ0 tk R hk K => ?_
  run_tac walkL
  all_goals exact K _ _ _ _ _ hle ⟨_, rfl, .leaf (by assumption)⟩
theorem read_cls (y : Wd) (W : Wo) (k : Nat) (k4 : k < 4) (g0 : Gm) (d u : Nat) (a : Addr) (hK0 : KIn (tops y) g0) (hW : WoIs g0 W) (hd : d + 20 < recursionLimit) (hu : u + 160 < cLine) (ha : TyIs g0 W a (.leaf k)) :
    Pu (cx y) g0 d u (.call (.ref 1234) ⟨[.ref a], []⟩) (fun g' r => ∃ c, r = .ok (.ret (.ref c)) ∧ PTIs g' c (.leaf k)) := by
  have zz_ := ha.cls_inv k4
  obtain ⟨_, _, _, _, _, _, _, q1, q2, q3⟩ := zz_
  have zz_ := (hW.info k (by omega)).inv
  obtain ⟨dd, dn, ddd, tl, tv, bl, ml, _, _, _, _, _, _, _, _, _, _, _, _, _, _, _, _, _, _, _, names, bs, e1, e2, e3, e4, e5, e6, q, e7, b0, b1, e8⟩ := zz_
  rw [hW.name k (by omega)] at e2
  have hc : k = 0 ∨ k = 1 ∨ k = 2 ∨ k = 3 := by omega
  refine pu_of fun F ρ0 tk R hk K => ?_
  rcases hc with rfl | rfl | rfl | rfl
  all_goals
    simp only [nm, nmS] at e2
    run_tac walkL
    all_goals exact K _ _ _ _ _ hle ⟨_, rfl, .leaf (by assumption)⟩
theorem read_box (y : Wd) (W : Wo) (k : Nat) (k4 : k < 4) (g0 : Gm) (d u : Nat) (a : Addr) (hK0 : KIn (tops y) g0) (hW : WoIs g0 W) (hd : d + 24 < recursionLimit) (hu : u + 200 < cLine) (ha : TyIs g0 W a (.un 4 (.leaf k))) :
    Pu (cx y) g0 d u (.call (.ref 1234) ⟨[.ref a], []⟩) (fun g' r => ∃ c, r = .ok (.ret (.ref c)) ∧ PTIs g' c (.un 4 (.leaf k))) := by
  have zz_ := ha.un_inv
  obtain ⟨_, _, _, x, _, _, _, _, _, q1, q2, q3, hx⟩ := zz_
  have zz_ := (hW.info 4 (by omega)).inv
  obtain ⟨dd, dn, ddd, tl, tv, bl, ml, _, _, _, _, _, _, _, _, _, _, _, _, _, _, _, _, _, _, _, names, bs, e1, e2, e3, e4, e5, e6, q, e7, b0, b1, e8⟩ := zz_
  rw [hW.name 4 (by omega)] at e2
  simp only [nm, nmS] at e2
  refine pu_of fun F ρ0 tk R hk K => ?_
  run_tac walkL [``read_cls]
  all_goals exact K _ _ _ _ _ hle ⟨_, rfl, .un (by assumption) (by assumption)⟩
theorem read_uni (y : Wd) (W : Wo) (t : PT) (g0 : Gm) (d u : Nat) (a : Addr) (hK0 : KIn (tops y) g0) (hW : WoIs g0 W) (hd : d + 24 < recursionLimit) (hu : u + 200 < cLine) (ha : TyIs g0 W a t) (ht : t.uni) :
    Pu (cx y) g0 d u (.call (.ref 1234) ⟨[.ref a], []⟩) (fun g' r => ∃ c, r = .ok (.ret (.ref c)) ∧ PTIs g' c t) := by
  have zz_ := PT.uni_cases ht
  rcases zz_ with rfl | ⟨k, k4, rfl⟩ | ⟨k, k4, rfl⟩
  · exact read_nev y W g0 d u a hK0 (by omega) (by omega) ha
  · exact read_cls y W k k4 g0 d u a hK0 hW (by omega) (by omega) ha
  · exact read_box y W k k4 g0 d u a hK0 hW hd hu ha
theorem read_pair (y : Wd) (W : Wo) (s t : PT) (hs : s.uni) (ht : t.uni) (g0 : Gm) (d u : Nat) (a : Addr) (hK0 : KIn (tops y) g0) (hW : WoIs g0 W) (hd : d + 28 < recursionLimit) (hu : u + 240 < cLine) (ha : TyIs g0 W a (.two s t)) :
    Pu (cx y) g0 d u (.call (.ref 1234) ⟨[.ref a], []⟩) (fun g' r => ∃ c, r = .ok (.ret (.ref c)) ∧ PTIs g' c (.two s t)) := by
  have zz_ := ha.two_inv
  obtain ⟨_, _, x, z, _, _, _, _, _, q1, q2, q3, hx, hz⟩ := zz_
  have zz_ := (hW.info 6 (by omega)).inv
  obtain ⟨dd, dn, ddd, tl, tv, bl, ml, _, _, _, _, _, _, _, _, _, _, _, _, _, _, _, _, _, _, _, names, bs, e1, e2, e3, e4, e5, e6, q, e7, b0, b1, e8⟩ := zz_
  rw [hW.name 6 (by omega)] at e2
  simp only [nm, nmS] at e2
  refine pu_of fun F ρ0 tk R hk K => ?_
  run_tac walkL [``read_uni]
  all_goals exact K _ _ _ _ _ hle ⟨_, rfl, .two (by assumption) (by assumption) (by assumption)⟩
end Mine

/-! W0 -/
namespace Mine
open PySem PySem.W PySem.W.X
/-! what the law makes first -/
inductive TI : Gm → Addr → Str → Addr → Addr → Nat → List Value → Prop where
  | mk {g : Gm} {a tv bl d dn dd tl ml : Addr} {x : Str} {k : Nat} {ms : List Value} {t0 t1 t2 t3 t4 t5 t6 n n0 n2 n4 : Nat} {h0 h1 h2 h3 h4 h5 : Int} {names : List Value} :
      g a = some (ins 92 d) →
      g d = some (dct [key h0 t0 "fullname" (.str x t5), key h1 t1 "defn" (.ref dn), key h2 t2 "type_vars" (.ref tl), key h3 t3 "bases" (.ref bl), key h4 t4 "mro" (.ref ml)] n) →
      g dn = some (ins 66 dd) → g dd = some (dct [key h5 t6 "type_vars" (.ref tv)] n0) →
      g tl = some (lstO names n2) → names.length = k → g ml = some (lstO ms n4) → TI g a x tv bl k ms
theorem TI.mono {g g' : Gm} {a tv bl : Addr} {x : Str} {k : Nat} {ms : List Value} (l : Le g g') (h : TI g a x tv bl k ms) : TI g' a x tv bl k ms := by
  cases h with | mk e1 e2 e3 e4 e5 e6 e7 => exact .mk (l _ _ e1) (l _ _ e2) (l _ _ e3) (l _ _ e4) (l _ _ e5) e6 (l _ _ e7)
theorem TI.ne {g : Gm} {a tv bl a' tv' bl' : Addr} {x x' : Str} {k k' : Nat} {ms ms' : List Value} (h : TI g a x tv bl k ms) (h' : TI g a' x' tv' bl' k' ms') (n : ms.length ≠ ms'.length) : a ≠ a' := by
  rintro rfl
  cases h with | mk e1 e2 e3 e4 e5 e6 e7 =>
  cases h' with | mk e1' e2' e3' e4' e5' e6' e7' =>
  rw [e1] at e1'
  cases e1'
  rw [e2] at e2'
  have : ∀ {x y : Obj}, some x = some y → x = y := fun h => Option.some.inj h
  have e := this e2'
  simp only [dct, Mine.key, Obj.mk.injEq, Data.dict.injEq, Array.mk.injEq, List.cons.injEq, DictEntry.mk.injEq, Value.ref.injEq] at e
  have em := e.2.2.1.1.2.2.2.2.1.2.2
  rw [em, e7'] at e7
  have e := this e7
  simp only [lstO, Obj.mk.injEq, Data.seq.injEq, Array.mk.injEq] at e
  exact n (by rw [e.2.2.1.1])
/-- an Instance of a class without arguments -/
inductive IC : Gm → Addr → Addr → Prop where
  | mk {g : Gm} {a i d tp : Addr} {t1 t2 n : Nat} {h1 h2 : Int} : g a = some (ins 366 d) → g d = some (dct [key h1 t1 "type" (.ref i), key h2 t2 "args" (.ref tp)] n) → g tp = some (tupO []) → IC g a i
theorem IC.mono {g g' : Gm} {a i : Addr} (l : Le g g') (h : IC g a i) : IC g' a i := by
  cases h with | mk e1 e2 e3 => exact .mk (l _ _ e1) (l _ _ e2) (l _ _ e3)
theorem mkIC_ok (y : Wd) (g0 : Gm) (d u : Nat) (i l m : Nat) (hK0 : KIn (tops y) g0) (hd : d + 9 < recursionLimit) (hu : u + 60 < cLine) (hl : g0 l = some (lstO [] m)) :
    Pu (cx y) g0 d u (.call (.ref 366) ⟨[.ref i, .ref l], []⟩) (fun g' r => ∃ a, r = .ok (.ret (.ref a)) ∧ IC g' a i) := by
  refine pu_of fun F ρ0 tk R hk K => ?_
  run_tac walkL
  all_goals exact K _ _ _ _ _ hle ⟨_, rfl, .mk (by assumption) (by assumption) (by assumption)⟩
theorem newId_ok (y : Wd) (g0 : Gm) (d u : Nat) (i : Int) (t : Nat) (hK0 : KIn (tops y) g0) (hd : d + 9 < recursionLimit) (hu : u + 60 < cLine) :
    Pu (cx y) g0 d u (.call (.ref 189) ⟨[.int i t], []⟩) (fun g' r => ∃ a, r = .ok (.ret (.ref a)) ∧ IdIs g' a i) := by
  refine pu_of fun F ρ0 tk R hk K => ?_
  run_tac walkL
  all_goals exact K _ _ _ _ _ hle ⟨_, rfl, .mk (by assumption) (by assumption)⟩
inductive TVar : Gm → Addr → Addr → Addr → Int → Prop where
  | mk {g : Gm} {a i rt d vs : Addr} {v : Int} {t1 t2 t3 t4 t5 t6 t7 n m : Nat} {h1 h2 h3 h4 h5 : Int} {x : Str} : g a = some (ins 232 d) →
      g d = some (dct [key h1 t1 "name" (.str x t6), key h2 t2 "id" (.ref i), key h3 t3 "upper_bound" (.ref rt), key h4 t4 "values" (.ref vs), key h5 t5 "variance" (.int v t7)] n) → g vs = some (lstO [] m) → TVar g a i rt v
theorem TVar.mono {g g' : Gm} {a i rt : Addr} {v : Int} (l : Le g g') (h : TVar g a i rt v) : TVar g' a i rt v := by
  cases h with | mk e1 e2 e3 => exact .mk (l _ _ e1) (l _ _ e2) (l _ _ e3)
theorem newTV5_ok (y : Wd) (g0 : Gm) (d u : Nat) (x : Str) (t i l rt m k : Nat) (v : Int) (hK0 : KIn (tops y) g0) (hd : d + 9 < recursionLimit) (hu : u + 60 < cLine) (hl : g0 l = some (lstO [] m)) :
    Pu (cx y) g0 d u (.call (.ref 232) ⟨[.str x t, .ref i, .ref l, .ref rt, .int v k], []⟩) (fun g' r => ∃ a, r = .ok (.ret (.ref a)) ∧ TVar g' a i rt v) := by
  refine pu_of fun F ρ0 tk R hk K => ?_
  run_tac walkL
  all_goals exact K _ _ _ _ _ hle ⟨_, rfl, .mk (by assumption) (by assumption) (by assumption)⟩
theorem newTV4_ok (y : Wd) (g0 : Gm) (d u : Nat) (x : Str) (t i l rt m : Nat) (hK0 : KIn (tops y) g0) (hd : d + 9 < recursionLimit) (hu : u + 60 < cLine) (hl : g0 l = some (lstO [] m)) :
    Pu (cx y) g0 d u (.call (.ref 232) ⟨[.str x t, .ref i, .ref l, .ref rt], []⟩) (fun g' r => ∃ a, r = .ok (.ret (.ref a)) ∧ TVar g' a i rt 0) := by
  refine pu_of fun F ρ0 tk R hk K => ?_
  run_tac walkL
  all_goals exact K _ _ _ _ _ hle ⟨_, rfl, .mk (by assumption) (by assumption) (by assumption)⟩
/-! TypeInfo(..) -/
theorem newTI0_ok (y : Wd) (g0 : Gm) (d u : Nat) (x : Str) (t tv bl m q : Nat) (hK0 : KIn (tops y) g0) (hd : d + 14 < recursionLimit) (hu : u + 100 < cLine) (htv : g0 tv = some (lstO [] m)) (hbl : g0 bl = some (lstO [] q)) :
    Pu (cx y) g0 d u (.call (.ref 92) ⟨[.str x t, .ref tv, .ref bl], []⟩) (fun g' r => ∃ a, r = .ok (.ret (.ref a)) ∧ TI g' a x tv bl 0 [.ref a]) := by
  refine pu_of fun F ρ0 tk R hk K => ?_
  run_tac walkL
  all_goals exact K _ _ _ _ _ hle ⟨_, rfl, .mk (by assumption) (by assumption) (by assumption) (by assumption) (by assumption) rfl (by assumption)⟩
/-- a class whose base's line is the root alone -/
theorem newTI1_ok (y : Wd) (g0 : Gm) (d u : Nat) (x xo : Str) (t tv bl m q b o otv obl qo ko : Nat) (hK0 : KIn (tops y) g0) (hd : d + 14 < recursionLimit) (hu : u + 100 < cLine) (htv : g0 tv = some (lstO [] m)) (hbl : g0 bl = some (lstO [.ref b] q)) (hb : IC g0 b o) (ho : TI g0 o xo otv obl ko [.ref o]) (hobl : g0 obl = some (lstO [] qo)) :
    Pu (cx y) g0 d u (.call (.ref 92) ⟨[.str x t, .ref tv, .ref bl], []⟩) (fun g' r => ∃ a, r = .ok (.ret (.ref a)) ∧ TI g' a x tv bl 0 [.ref a, .ref o]) := by
  cases hb with | mk b1 b2 b3 =>
  cases ho with | mk o1 o2 o3 o4 o5 o6 o7 =>
  refine pu_of fun F ρ0 tk R hk K => ?_
  run_tac walkL
  all_goals exact K _ _ _ _ _ hle ⟨_, rfl, .mk (by assumption) (by assumption) (by assumption) (by assumption) (by assumption) rfl (by assumption)⟩
/-- the box and the sink -/
theorem newTIv_ok (y : Wd) (g0 : Gm) (d u : Nat) (x xo : Str) (t tv bl m q b o otv obl qo ko v iv rt : Nat) (va : Int) (hK0 : KIn (tops y) g0) (hd : d + 14 < recursionLimit) (hu : u + 100 < cLine) (htv : g0 tv = some (lstO [.ref v] m)) (hv : TVar g0 v iv rt va) (hbl : g0 bl = some (lstO [.ref b] q)) (hb : IC g0 b o) (ho : TI g0 o xo otv obl ko [.ref o]) (hobl : g0 obl = some (lstO [] qo)) :
    Pu (cx y) g0 d u (.call (.ref 92) ⟨[.str x t, .ref tv, .ref bl], []⟩) (fun g' r => ∃ a, r = .ok (.ret (.ref a)) ∧ TI g' a x tv bl 1 [.ref a, .ref o]) := by
  cases hv with | mk v1 v2 v3 =>
  cases hb with | mk b1 b2 b3 =>
  cases ho with | mk o1 o2 o3 o4 o5 o6 o7 =>
  refine pu_of fun F ρ0 tk R hk K => ?_
  run_tac walkL
  all_goals exact K _ _ _ _ _ hle ⟨_, rfl, .mk (by assumption) (by assumption) (by assumption) (by assumption) (by assumption) rfl (by assumption)⟩
/-- the pair -/
theorem newTIw_ok (y : Wd) (g0 : Gm) (d u : Nat) (x xo : Str) (t tv bl m q b o otv obl qo ko v iv rt w iw rw_ : Nat) (va wa : Int) (hK0 : KIn (tops y) g0) (hd : d + 14 < recursionLimit) (hu : u + 100 < cLine) (htv : g0 tv = some (lstO [.ref v, .ref w] m)) (hv : TVar g0 v iv rt va) (hw : TVar g0 w iw rw_ wa) (hbl : g0 bl = some (lstO [.ref b] q)) (hb : IC g0 b o) (ho : TI g0 o xo otv obl ko [.ref o]) (hobl : g0 obl = some (lstO [] qo)) :
    Pu (cx y) g0 d u (.call (.ref 92) ⟨[.str x t, .ref tv, .ref bl], []⟩) (fun g' r => ∃ a, r = .ok (.ret (.ref a)) ∧ TI g' a x tv bl 2 [.ref a, .ref o]) := by
  cases hv with | mk v1 v2 v3 =>
  cases hw with | mk w1 w2 w3 =>
  cases hb with | mk b1 b2 b3 =>
  cases ho with | mk o1 o2 o3 o4 o5 o6 o7 =>
  refine pu_of fun F ρ0 tk R hk K => ?_
  run_tac walkL
  all_goals exact K _ _ _ _ _ hle ⟨_, rfl, .mk (by assumption) (by assumption) (by assumption) (by assumption) (by assumption) rfl (by assumption)⟩
theorem newTI2_ok (y : Wd) (g0 : Gm) (d u : Nat) (x xo xp : Str) (t tv bl m q b o otv obl qo ko p ptv pbl kp bp qp : Nat) (hK0 : KIn (tops y) g0) (hd : d + 14 < recursionLimit) (hu : u + 100 < cLine) (htv : g0 tv = some (lstO [] m)) (hbl : g0 bl = some (lstO [.ref b] q)) (hb : IC g0 b p) (hp : TI g0 p xp ptv pbl kp [.ref p, .ref o]) (hpbl : g0 pbl = some (lstO [.ref bp] qp)) (ho : TI g0 o xo otv obl ko [.ref o]) (hobl : g0 obl = some (lstO [] qo)) :
    Pu (cx y) g0 d u (.call (.ref 92) ⟨[.str x t, .ref tv, .ref bl], []⟩) (fun g' r => ∃ a, r = .ok (.ret (.ref a)) ∧ TI g' a x tv bl 0 [.ref a, .ref p, .ref o]) := by
  have ne : p ≠ o := hp.ne ho (by simp)
  have ne' : o ≠ p := fun e => ne e.symm
  cases hb with | mk b1 b2 b3 =>
  cases ho with | mk o1 o2 o3 o4 o5 o6 o7 =>
  cases hp with | mk p1 p2 p3 p4 p5 p6 p7 =>
  refine pu_of fun F ρ0 tk R hk K => ?_
  run_tac walkL
  all_goals exact K _ _ _ _ _ hle ⟨_, rfl, .mk (by assumption) (by assumption) (by assumption) (by assumption) (by assumption) rfl (by assumption)⟩
theorem newTI3_ok (y : Wd) (g0 : Gm) (d u : Nat) (x xo xp xc : Str) (t tv bl m q b o otv obl qo ko p ptv pbl kp bp qp c ctv cbl kc bc qc : Nat) (hK0 : KIn (tops y) g0) (hd : d + 14 < recursionLimit) (hu : u + 100 < cLine) (htv : g0 tv = some (lstO [] m)) (hbl : g0 bl = some (lstO [.ref b] q)) (hb : IC g0 b c) (hcc : TI g0 c xc ctv cbl kc [.ref c, .ref p, .ref o]) (hcbl : g0 cbl = some (lstO [.ref bc] qc)) (hp : TI g0 p xp ptv pbl kp [.ref p, .ref o]) (hpbl : g0 pbl = some (lstO [.ref bp] qp)) (ho : TI g0 o xo otv obl ko [.ref o]) (hobl : g0 obl = some (lstO [] qo)) :
    Pu (cx y) g0 d u (.call (.ref 92) ⟨[.str x t, .ref tv, .ref bl], []⟩) (fun g' r => ∃ a, r = .ok (.ret (.ref a)) ∧ TI g' a x tv bl 0 [.ref a, .ref c, .ref p, .ref o]) := by
  have ne : p ≠ o := hp.ne ho (by simp)
  have ne' : o ≠ p := fun e => ne e.symm
  have n2 : c ≠ o := hcc.ne ho (by simp)
  have n2' : o ≠ c := fun e => n2 e.symm
  have n3 : c ≠ p := hcc.ne hp (by simp)
  have n3' : p ≠ c := fun e => n3 e.symm
  cases hb with | mk b1 b2 b3 =>
  cases ho with | mk o1 o2 o3 o4 o5 o6 o7 =>
  cases hp with | mk p1 p2 p3 p4 p5 p6 p7 =>
  cases hcc with | mk c1 c2 c3 c4 c5 c6 c7 =>
  refine pu_of fun F ρ0 tk R hk K => ?_
  run_tac walkL
  all_goals exact K _ _ _ _ _ hle ⟨_, rfl, .mk (by assumption) (by assumption) (by assumption) (by assumption) (by assumption) rfl (by assumption)⟩
end Mine

/-! W0b -/
namespace Mine
open PySem PySem.W PySem.W.X
def mkWo (p2 p3 : Nat) (a0 a1 a2 a3 a4 a5 a6 R Fl V0 V1 i0 i1 rt : Addr) : Wo where
  N := nm
  I k := match k with | 0 => a0 | 1 => a1 | 2 => a2 | 3 => a3 | 4 => a4 | 5 => a5 | _ => a6
  par k := if k = 2 then p2 else if k = 3 then p3 else 0
  R := R
  Fl := Fl
  V j := match j with | 0 => V0 | _ => V1
  vi j := match j with | 0 => i0 | _ => i1
  root := rt
/-- a class from what its making tells -/
theorem TI.info {g : Gm} {W : Wo} {k : Nat} {a tv bl : Addr} {x : Str} {nt n1 n3 : Nat} {ms tvl bs : List Value} (h : TI g a x tv bl nt ms) (ha : a = W.I k) (hx : x = W.N k) (ht : g tv = some (lstO tvl n1)) (htl : tvl = tvs W k) (hnt : nt = tvl.length) (hb : g bl = some (lstO bs n3)) (b0 : k = 0 → bs = []) (b1 : k ≠ 0 → ∃ b, bs = [.ref b] ∧ IC g b (W.I (W.par k)) ∧ W.par k < 4) (hm : ms = (W.mro k).map fun i => .ref (W.I i)) : InfoIs g W k := by
  subst ha; subst hx; subst htl; subst hnt; subst hm
  cases h with | mk e1 e2 e3 e4 e5 e6 e7 =>
  refine .mk e1 e2 e3 e4 ht e5 e6 hb b0 (fun z => ?_) e7
  have zz_ := b1 z
  obtain ⟨b, e, hi, p4⟩ := zz_
  cases hi with | mk i1 i2 i3 => exact ⟨b, e, .cls p4 i1 i2 i3⟩
theorem TVar.var {g : Gm} {W : Wo} {a i rt : Addr} {v : Int} (h : TVar g a i rt v) (e : rt = W.root) : VarIs g W a i v := by
  subst e
  cases h with | mk e1 e2 e3 => exact .mk e1 e2 e3
theorem InfoIs.name_eq {g : Gm} {W : Wo} {j k : Nat} (hj : InfoIs g W j) (hk : InfoIs g W k) (e : W.I j = W.I k) : W.N j = W.N k := by
  have zz_ := hj.inv
  obtain ⟨dd, dn, ddd, tl, tv, bl, ml, _, _, _, _, _, _, _, _, _, _, _, _, _, _, _, _, _, _, _, names, bs, e1, e2, _⟩ := zz_
  have zz_ := hk.inv
  obtain ⟨dd', dn', ddd', tl', tv', bl', ml', _, _, _, _, _, _, _, _, _, _, _, _, _, _, _, _, _, _, _, names', bs', e1', e2', _⟩ := zz_
  rw [e, e1'] at e1
  cases e1
  rw [e2'] at e2
  have : ∀ {x y : Obj}, some x = some y → x = y := fun h => Option.some.inj h
  have e := this e2
  simp only [dct, Mine.key, Obj.mk.injEq, Data.dict.injEq, Array.mk.injEq, List.cons.injEq, DictEntry.mk.injEq, Value.str.injEq] at e
  exact e.2.2.1.1.1.2.2.1.symm
theorem WoIs.of {g : Gm} {W : Wo} (hi : ∀ k, k < 7 → InfoIs g W k) (hr : IC g W.root (W.I 0)) (hN : W.N = nm) (rise : ∃ i, VarIs g W W.R i 1) (fall : ∃ i, VarIs g W W.Fl i 2) (v0 : VarIs g W (W.V 0) (W.vi 0) 0) (v1 : VarIs g W (W.V 1) (W.vi 1) 0) (j0 : IdIs g (W.vi 0) 1) (j1 : IdIs g (W.vi 1) 2) (hp : ParOk W) : WoIs g W where
  info := hi
  rootIs := by cases hr with | mk a b c => exact .cls (by omega) a b c
  rise := rise
  fall := fall
  vars j hj := by
    have : j = 0 ∨ j = 1 := by omega
    rcases this with rfl | rfl
    · exact ⟨v0, j0⟩
    · exact ⟨v1, j1⟩
  par1 := hp.p1
  par2 := hp.p2
  par3 := hp.p3
  par4 := hp.p4
  par5 := hp.p5
  par6 := hp.p6
  name k _ := by rw [hN]
  inj j k hj hk e := by
    have := (hi j hj).name_eq (hi k hk) e
    rw [hN] at this
    exact nm_inj j hj k hk this
/-- what stands when the first part is done -/
structure Begun (g : Gm) (W : Wo) (ab il vl : Value) : Prop where
  wo : WoIs g W
  ab : ∃ a, ab = .ref a ∧ AbIs g W a
  il : ∃ a m, il = .ref a ∧ g a = some (lstO [.ref (W.I 0), .ref (W.I 1), .ref (W.I 2), .ref (W.I 3), .ref (W.I 4), .ref (W.I 5), .ref (W.I 6)] m)
  vl : ∃ a m, vl = .ref a ∧ g a = some (lstO [.ref (W.V 0), .ref (W.V 1)] m)
theorem Begun.mono {g g' : Gm} {W : Wo} {ab il vl : Value} (l : Le g g') (h : Begun g W ab il vl) : Begun g' W ab il vl :=
  ⟨h.wo.mono l, let ⟨a, e, x⟩ := h.ab; ⟨a, e, x.mono l⟩, let ⟨a, m, e, x⟩ := h.il; ⟨a, m, e, l _ _ x⟩, let ⟨a, m, e, x⟩ := h.vl; ⟨a, m, e, l _ _ x⟩⟩
theorem begun_of {g : Gm} (p2 p3 : Nat) (hp2 : p2 < 2) (hp3 : p3 < 3) {a0 a1 a2 a3 a4 a5 a6 R Fl V0 V1 i0 i1 rt iR iF la li lv l0 l1 l2 l3 tv0 tv1 tv2 tv3 tv4 tv5 tv6 bl0 bl1 bl2 bl3 bl4 bl5 bl6 b1 b2 b3 : Addr} {x0 x1 x2 x3 x4 x5 x6 : Str} {ms2 ms3 c0 c1 c2 c3 : List Value} {n0 n1 n2 n3 n4 n5 n6 q0 q1 q2 q3 q4 q5 q6 na ni nv k0 k1 k2 k3 : Nat}
    (hli : g li = some (lstO [.ref a0, .ref a1, .ref a2, .ref a3, .ref a4, .ref a5, .ref a6] ni)) (hlv : g lv = some (lstO [.ref V0, .ref V1] nv)) (hla : g la = some (lstO [.ref l0, .ref l1, .ref l2, .ref l3] na))
    (h0 : TI g a0 x0 tv0 bl0 0 [.ref a0]) (t0 : g tv0 = some (lstO [] n0)) (s0 : g bl0 = some (lstO [] q0))
    (h1 : TI g a1 x1 tv1 bl1 0 [.ref a1, .ref a0]) (t1 : g tv1 = some (lstO [] n1)) (s1 : g bl1 = some (lstO [.ref b1] q1)) (w1 : IC g b1 a0)
    (h2 : TI g a2 x2 tv2 bl2 0 ms2) (t2 : g tv2 = some (lstO [] n2)) (s2 : g bl2 = some (lstO [.ref b2] q2)) (w2 : IC g b2 ((mkWo p2 p3 a0 a1 a2 a3 a4 a5 a6 R Fl V0 V1 i0 i1 rt).I p2))
    (h3 : TI g a3 x3 tv3 bl3 0 ms3) (t3 : g tv3 = some (lstO [] n3)) (s3 : g bl3 = some (lstO [.ref b3] q3)) (w3 : IC g b3 ((mkWo p2 p3 a0 a1 a2 a3 a4 a5 a6 R Fl V0 V1 i0 i1 rt).I p3))
    (h4 : TI g a4 x4 tv4 bl4 1 [.ref a4, .ref a0]) (t4 : g tv4 = some (lstO [.ref R] n4)) (s4 : g bl4 = some (lstO [.ref rt] q4))
    (h5 : TI g a5 x5 tv5 bl5 1 [.ref a5, .ref a0]) (t5 : g tv5 = some (lstO [.ref Fl] n5)) (s5 : g bl5 = some (lstO [.ref rt] q5))
    (h6 : TI g a6 x6 tv6 bl6 2 [.ref a6, .ref a0]) (t6 : g tv6 = some (lstO [.ref R, .ref Fl] n6)) (s6 : g bl6 = some (lstO [.ref rt] q6))
    (hr : IC g rt a0) (hR : TVar g R iR rt 1) (hF : TVar g Fl iF rt 2) (hV0 : TVar g V0 i0 rt 0) (hV1 : TVar g V1 i1 rt 0) (hi0 : IdIs g i0 1) (hi1 : IdIs g i1 2)
    (g0 : g l0 = some (lstO c0 k0)) (g1 : g l1 = some (lstO c1 k1)) (g2 : g l2 = some (lstO c2 k2)) (g3 : g l3 = some (lstO c3 k3))
    (hx0 : x0 = nm 0) (hx1 : x1 = nm 1) (hx2 : x2 = nm 2) (hx3 : x3 = nm 3) (hx4 : x4 = nm 4) (hx5 : x5 = nm 5) (hx6 : x6 = nm 6)
    (m2 : ms2 = ((mkWo p2 p3 a0 a1 a2 a3 a4 a5 a6 R Fl V0 V1 i0 i1 rt).mro 2).map fun i => .ref ((mkWo p2 p3 a0 a1 a2 a3 a4 a5 a6 R Fl V0 V1 i0 i1 rt).I i))
    (m3 : ms3 = ((mkWo p2 p3 a0 a1 a2 a3 a4 a5 a6 R Fl V0 V1 i0 i1 rt).mro 3).map fun i => .ref ((mkWo p2 p3 a0 a1 a2 a3 a4 a5 a6 R Fl V0 V1 i0 i1 rt).I i))
    (i0' : IntsL c0 [0]) (i1' : IntsL c1 [1, 0]) (i2' : IntsL c2 ((mkWo p2 p3 a0 a1 a2 a3 a4 a5 a6 R Fl V0 V1 i0 i1 rt).mro 2)) (i3' : IntsL c3 ((mkWo p2 p3 a0 a1 a2 a3 a4 a5 a6 R Fl V0 V1 i0 i1 rt).mro 3)) :
    Begun g (mkWo p2 p3 a0 a1 a2 a3 a4 a5 a6 R Fl V0 V1 i0 i1 rt) (.ref la) (.ref li) (.ref lv) := by
  generalize hW : mkWo p2 p3 a0 a1 a2 a3 a4 a5 a6 R Fl V0 V1 i0 i1 rt = W at *
  have hN : W.N = nm := by rw [← hW]; rfl
  have hI0 : W.I 0 = a0 := by rw [← hW]; rfl
  have hI1 : W.I 1 = a1 := by rw [← hW]; rfl
  have hI2 : W.I 2 = a2 := by rw [← hW]; rfl
  have hI3 : W.I 3 = a3 := by rw [← hW]; rfl
  have hI4 : W.I 4 = a4 := by rw [← hW]; rfl
  have hI5 : W.I 5 = a5 := by rw [← hW]; rfl
  have hI6 : W.I 6 = a6 := by rw [← hW]; rfl
  have p1 : W.par 1 = 0 := by rw [← hW]; rfl
  have e2 : W.par 2 = p2 := by rw [← hW]; rfl
  have e3 : W.par 3 = p3 := by rw [← hW]; rfl
  have p4 : W.par 4 = 0 := by rw [← hW]; rfl
  have p5 : W.par 5 = 0 := by rw [← hW]; rfl
  have p6 : W.par 6 = 0 := by rw [← hW]; rfl
  have eR : W.R = R := by rw [← hW]; rfl
  have eF : W.Fl = Fl := by rw [← hW]; rfl
  have er : W.root = rt := by rw [← hW]; rfl
  have eV0 : W.V 0 = V0 := by rw [← hW]; rfl
  have eV1 : W.V 1 = V1 := by rw [← hW]; rfl
  have ei0 : W.vi 0 = i0 := by rw [← hW]; rfl
  have ei1 : W.vi 1 = i1 := by rw [← hW]; rfl
  have hp : ParOk W := ⟨p1, by rw [e2]; exact hp2, by rw [e3]; exact hp3, p4, p5, p6⟩
  have q0 : W.mro 0 = [0] := by simp [Wo.mro, Wo.anc]
  have q1 : W.mro 1 = [1, 0] := by simp [Wo.mro, Wo.anc, p1]
  have q4 : W.mro 4 = [4, 0] := by simp [Wo.mro, Wo.anc, p4]
  have q5 : W.mro 5 = [5, 0] := by simp [Wo.mro, Wo.anc, p5]
  have q6 : W.mro 6 = [6, 0] := by simp [Wo.mro, Wo.anc, p6]
  refine ⟨WoIs.of (fun k hk => ?_) (by rw [er, hI0]; exact hr) hN ⟨iR, by rw [eR]; exact hR.var er.symm⟩ ⟨iF, by rw [eF]; exact hF.var er.symm⟩ (by rw [eV0, ei0]; exact hV0.var er.symm) (by rw [eV1, ei1]; exact hV1.var er.symm) (by rw [ei0]; exact hi0) (by rw [ei1]; exact hi1) hp,
    ⟨la, rfl, .mk hla g0 g1 g2 g3 (by rw [q0]; exact i0') (by rw [q1]; exact i1') i2' i3'⟩, ⟨li, ni, rfl, by rw [hI0, hI1, hI2, hI3, hI4, hI5, hI6]; exact hli⟩, ⟨lv, nv, rfl, by rw [eV0, eV1]; exact hlv⟩⟩
  have : k = 0 ∨ k = 1 ∨ k = 2 ∨ k = 3 ∨ k = 4 ∨ k = 5 ∨ k = 6 := by omega
  rcases this with rfl | rfl | rfl | rfl | rfl | rfl | rfl
  · exact h0.info hI0.symm (by rw [hN]; exact hx0) t0 rfl rfl s0 (fun _ => rfl) (fun z => absurd rfl z) (by rw [q0]; simp [hI0])
  · exact h1.info hI1.symm (by rw [hN]; exact hx1) t1 rfl rfl s1 (fun z => by omega) (fun _ => ⟨b1, rfl, by rw [p1, hI0]; exact w1, by omega⟩) (by rw [q1]; simp [hI0, hI1])
  · exact h2.info hI2.symm (by rw [hN]; exact hx2) t2 rfl rfl s2 (fun z => by omega) (fun _ => ⟨b2, rfl, by rw [e2]; exact w2, by omega⟩) m2
  · exact h3.info hI3.symm (by rw [hN]; exact hx3) t3 rfl rfl s3 (fun z => by omega) (fun _ => ⟨b3, rfl, by rw [e3]; exact w3, by omega⟩) m3
  · exact h4.info hI4.symm (by rw [hN]; exact hx4) t4 (by simp only [tvs, eR]) rfl s4 (fun z => by omega) (fun _ => ⟨rt, rfl, by rw [p4, hI0]; exact hr, by omega⟩) (by rw [q4]; simp [hI0, hI4])
  · exact h5.info hI5.symm (by rw [hN]; exact hx5) t5 (by simp only [tvs, eF]) rfl s5 (fun z => by omega) (fun _ => ⟨rt, rfl, by rw [p5, hI0]; exact hr, by omega⟩) (by rw [q5]; simp [hI0, hI5])
  · exact h6.info hI6.symm (by rw [hN]; exact hx6) t6 (by simp only [tvs, eR, eF]) rfl s6 (fun z => by omega) (fun _ => ⟨rt, rfl, by rw [p6, hI0]; exact hr, by omega⟩) (by rw [q6]; simp [hI0, hI6])
end Mine

/-! M2 -/
namespace Mine
open PySem PySem.W PySem.W.X
/-! plain mathematics: what the law asks of the answers -/
abbrev Par := Nat × PT × PT
def PT.fix (W : Wo) : PT → PT → Bool → Bool
  | .leaf c, a, up => if c < 7 then (if up = true then a.sub W (.leaf c) else (PT.leaf c).sub W a) else true
  | .un c t, .un _ a, up => t.fix W a (if c = 5 then !up else up)
  | .two t u, .two a b, up => t.fix W a up && u.fix W b (!up)
  | _, _, _ => true
def sat (W : Wo) (u : PT) (c : Con) : Bool := if c.2.1 = true then c.2.2.sub W u else u.sub W c.2.2
theorem fit_eq (W : Wo) (u : PT) : ∀ (t a : PT) (up : Bool), t.tr → t.filU a up → (if up = true then a.sub W (t.put u) else (t.put u).sub W a) = (t.fix W a up && (t.cons a up).all (sat W u))
  | .leaf c, a, up, ht, hf => by
    unfold PT.put PT.cons PT.fix
    by_cases h : c < 7
    · simp [h]
    · simp only [h, if_false, List.all_cons, List.all_nil, Bool.and_true, Bool.true_and]
      cases up <;> simp [sat]
  | .un c t, .leaf _, up, ht, hf => hf.elim
  | .un c t, .two _ _, up, ht, hf => hf.elim
  | .un c t, .un k a, up, ht, hf => by
    obtain ⟨rfl, hf⟩ := hf
    have ih := fit_eq W u t a (if c = 5 then !up else up) ht.2 hf
    have e : (if c = 4 then up else !up) = (if c = 5 then !up else up) := by rcases ht.1 with rfl | rfl <;> simp
    show (if up = true then (PT.un c a).sub W (.un c (t.put u)) else (PT.un c (t.put u)).sub W (.un c a)) = (t.fix W a (if c = 5 then !up else up) && (t.cons a (if c = 4 then up else !up)).all (sat W u))
    rw [e, ← ih]
    have zz_ := ht.1
    rcases zz_ with rfl | rfl <;> cases up <;> simp [PT.sub]
  | .two t s, .leaf _, up, ht, hf => hf.elim
  | .two t s, .un _ _, up, ht, hf => hf.elim
  | .two t s, .two a b, up, ht, hf => by
    have i1 := fit_eq W u t a up ht.1 hf.1
    have i2 := fit_eq W u s b (!up) ht.2 hf.2
    show (if up = true then (PT.two a b).sub W (.two (t.put u) (s.put u)) else (PT.two (t.put u) (s.put u)).sub W (.two a b)) = ((t.fix W a up && s.fix W b (!up)) && (t.cons a up ++ s.cons b (!up)).all (sat W u))
    rw [List.all_append]
    have : ∀ A B C D : Bool, ((A && B) && (C && D)) = ((A && C) && (B && D)) := by decide
    rw [this, ← i1, ← i2]
    cases up <;> simp [PT.sub]
theorem cons_var {j : Nat} : ∀ (t a : PT) (up : Bool), t.trW j → ∀ c ∈ t.cons a up, c.1 = j
  | .leaf c, a, up, ht, x, hx => by
    unfold PT.cons at hx
    by_cases h : c < 7
    · rw [if_pos h] at hx; cases hx
    · rw [if_neg h] at hx
      rw [List.mem_singleton.mp hx]
      simp only [PT.trW] at ht
      show c - 7 = j
      omega
  | .un c t, .leaf _, up, ht, x, hx => by simp [PT.cons] at hx
  | .un c t, .two _ _, up, ht, x, hx => by simp [PT.cons] at hx
  | .un c t, .un k a, up, ht, x, hx => cons_var t a _ ht.2 x hx
  | .two t s, .leaf _, up, ht, x, hx => by simp [PT.cons] at hx
  | .two t s, .un _ _, up, ht, x, hx => by simp [PT.cons] at hx
  | .two t s, .two a b, up, ht, x, hx => by
    rw [PT.cons, List.mem_append] at hx
    rcases hx with hx | hx
    · exact cons_var t a _ ht.1 x hx
    · exact cons_var s b _ ht.2 x hx
theorem cons_ways : ∀ (t a : PT) (up : Bool), t.tr → t.filU a up → (t.cons a up).map (·.2.1) = t.ways up
  | .leaf c, a, up, ht, hf => by
    unfold PT.cons PT.ways
    by_cases h : c < 7 <;> simp [h]
  | .un c t, .leaf _, up, ht, hf => hf.elim
  | .un c t, .two _ _, up, ht, hf => hf.elim
  | .un c t, .un k a, up, ht, hf => by
    have ih := cons_ways t a _ ht.2 hf.2
    have e : (if c = 4 then up else !up) = (if c = 5 then !up else up) := by rcases ht.1 with rfl | rfl <;> simp
    show (t.cons a (if c = 4 then up else !up)).map (·.2.1) = t.ways (if c = 5 then !up else up)
    rw [e]; exact ih
  | .two t s, .leaf _, up, ht, hf => hf.elim
  | .two t s, .un _ _, up, ht, hf => hf.elim
  | .two t s, .two a b, up, ht, hf => by
    show (t.cons a up ++ s.cons b (!up)).map (·.2.1) = t.ways up ++ s.ways (!up)
    rw [List.map_append, cons_ways t a up ht.1 hf.1, cons_ways s b (!up) ht.2 hf.2]
theorem cons_ok : ∀ (t a : PT) (up : Bool), t.tr → t.filU a up → ∀ c ∈ t.cons a up, c.2.2.simp ∧ (c.2.1 = false → c.2.2.dep ≤ 0)
  | .leaf c, a, up, ht, hf, x, hx => by
    unfold PT.cons at hx
    by_cases h : c < 7
    · rw [if_pos h] at hx; cases hx
    · rw [if_neg h] at hx
      rw [List.mem_singleton.mp hx]
      have hf' : (if up = true then a.simp else ∃ k, k < 4 ∧ a = .leaf k) := by
        have : (if c < 7 then ∃ k, k < 4 ∧ a = .leaf k else if up = true then a.simp else ∃ k, k < 4 ∧ a = .leaf k) := by cases a <;> exact hf
        rwa [if_neg h] at this
      cases up with
      | true => rw [if_pos rfl] at hf'; exact ⟨hf', fun e => by cases e⟩
      | false =>
        rw [if_neg Bool.false_ne_true] at hf'
        obtain ⟨k, k4, rfl⟩ := hf'
        exact ⟨k4, fun _ => by simp [PT.dep]⟩
  | .un c t, .leaf _, up, ht, hf, x, hx => hf.elim
  | .un c t, .two _ _, up, ht, hf, x, hx => hf.elim
  | .un c t, .un k a, up, ht, hf, x, hx => by
    have e : (if c = 4 then up else !up) = (if c = 5 then !up else up) := by rcases ht.1 with rfl | rfl <;> simp
    have hx' : x ∈ t.cons a (if c = 4 then up else !up) := hx
    rw [e] at hx'
    exact cons_ok t a _ ht.2 hf.2 x hx'
  | .two t s, .leaf _, up, ht, hf, x, hx => hf.elim
  | .two t s, .un _ _, up, ht, hf, x, hx => hf.elim
  | .two t s, .two a b, up, ht, hf, x, hx => by
    have hx' : x ∈ t.cons a up ++ s.cons b (!up) := hx
    have zz_ := List.mem_append.mp hx'
    rcases zz_ with hx | hx
    · exact cons_ok t a _ ht.1 hf.1 x hx
    · exact cons_ok s b _ ht.2 hf.2 x hx
theorem exp_put {j : Nat} (hj : j < 2) (t0 t1 : PT) : ∀ (t : PT), t.trW j → t.exp (pick2 t0 t1) = t.put (pick2 t0 t1 j)
  | .leaf c, ht => by
    unfold PT.exp PT.put
    by_cases h : c < 7
    · simp [h]
    · simp only [h, if_false]
      simp only [PT.trW] at ht
      congr 1
      omega
  | .un c t, ht => by show PT.un c (t.exp _) = PT.un c (t.put _); rw [exp_put hj t0 t1 t ht.2]
  | .two t u, ht => by show PT.two (t.exp _) (u.exp _) = PT.two (t.put _) (u.put _); rw [exp_put hj t0 t1 t ht.1, exp_put hj t0 t1 u ht.2]
/-! the nine -/
def univ : List PT := [.leaf 9, .leaf 0, .leaf 1, .leaf 2, .leaf 3, .un 4 (.leaf 0), .un 4 (.leaf 1), .un 4 (.leaf 2), .un 4 (.leaf 3)]
theorem univ_uni : ∀ t ∈ univ, t.uni := by
  intro t ht
  simp only [univ, List.mem_cons, List.not_mem_nil, or_false] at ht
  rcases ht with rfl | rfl | rfl | rfl | rfl | rfl | rfl | rfl | rfl
  · exact .inl rfl
  all_goals exact .inr (by simp [PT.simp])
theorem uni_univ {t : PT} (h : t.uni) : t ∈ univ := by
  have zz_ := PT.uni_cases h
  rcases zz_ with rfl | ⟨k, k4, rfl⟩ | ⟨k, k4, rfl⟩
  · simp [univ]
  · have : k = 0 ∨ k = 1 ∨ k = 2 ∨ k = 3 := by omega
    rcases this with rfl | rfl | rfl | rfl <;> simp [univ]
  · have : k = 0 ∨ k = 1 ∨ k = 2 ∨ k = 3 := by omega
    rcases this with rfl | rfl | rfl | rfl <;> simp [univ]
theorem sat_all (W : Wo) (u : PT) (l : List Con) : l.all (sat W u) = ((pickT true l).all (fun t => t.sub W u) && (pickT false l).all (fun t => u.sub W t)) := by
  induction l with
  | nil => rfl
  | cons c l ih =>
    obtain ⟨j, up, t⟩ := c
    rw [List.all_cons, ih]
    cases up
    · have e1 : pickT true ((j, false, t) :: l) = pickT true l := by simp [pickT]
      have e2 : pickT false ((j, false, t) :: l) = t :: pickT false l := by simp [pickT]
      rw [e1, e2, List.all_cons]
      have : ∀ A B C : Bool, (A && (B && C)) = (B && (A && C)) := by decide
      exact this _ _ _
    · have e1 : pickT true ((j, true, t) :: l) = t :: pickT true l := by simp [pickT]
      have e2 : pickT false ((j, true, t) :: l) = pickT false l := by simp [pickT]
      rw [e1, e2, List.all_cons, Bool.and_assoc]
      rfl
/-- the answer among the nine: none where nothing satisfies, else the least or the greatest -/
structure Best (W : Wo) (L : List Con) (t : PT) : Prop where
  mem : t.uni
  ok : L.all (sat W t) = true
  none : L = [] → t = .leaf 9
  least : pickT true L ≠ [] → ∀ w : PT, w.uni → L.all (sat W w) = true → t.sub W w = true
  great : pickT true L = [] → L ≠ [] → ∀ w : PT, w.uni → L.all (sat W w) = true → w.sub W t = true
section
variable {W : Wo} (h : ParOk W)
include h
theorem ParOk.meets_ge {c : PT} (hc : c.uni) : ∀ (ss : List PT) (a : PT), a.ty → a.dep ≤ 0 → (∀ s ∈ ss, s.ty ∧ s.dep ≤ 0) → c.sub W (ss.foldl (PT.meet W) a) = (c.sub W a && ss.all fun s => c.sub W s)
  | [], a, _, _, _ => by simp
  | s :: ss, a, ha, da, hs => by
    have s1 := hs s (List.mem_cons_self ..)
    have m := PT.meet_z (W := W) ha s1.1 da s1.2
    rw [List.foldl_cons, ParOk.meets_ge hc ss _ m.1 m.2 (fun x hx => hs x (List.mem_cons_of_mem _ hx)), h.meet_ge ha s1.1 da s1.2 hc, List.all_cons, Bool.and_assoc]
theorem ParOk.solve_spec {L : List Con} (hs : ∀ c ∈ L, c.2.2.simp ∧ (c.2.1 = false → c.2.2.dep ≤ 0)) :
    (∀ t, sol W L = some t → Best W L t) ∧ (sol W L = none → ∀ w : PT, w.uni → L.all (sat W w) = false) := by
  have hl : ∀ t ∈ pickT true L, t.simp := fun t ht => by
    have zz_ := pickT_mem ht
    obtain ⟨c, hc, _, e⟩ := zz_
    rw [← e]; exact (hs c hc).1
  have hu : ∀ t ∈ pickT false L, t.ty ∧ t.dep ≤ 0 := fun t ht => by
    have zz_ := pickT_mem ht
    obtain ⟨c, hc, e', e⟩ := zz_
    rw [← e]; exact ⟨PT.simp_ty (hs c hc).1, (hs c hc).2 e'⟩
  have sa := fun w => sat_all W w L
  have hsol : sol W L = solveOne W (pickT true L) (pickT false L) := rfl
  cases e1 : pickT true L with
  | nil =>
    cases e2 : pickT false L with
    | nil =>
      rw [e1, e2] at hsol
      have e : L = [] := by
        cases L with
        | nil => rfl
        | cons c l => rcases pickT_ne c l with z | z
                      · exact absurd e1 z
                      · exact absurd e2 z
      refine ⟨fun t ht => ?_, fun z => by rw [hsol] at z; cases z⟩
      rw [hsol] at ht
      cases ht
      exact ⟨.inl rfl, by rw [e]; rfl, fun _ => rfl, fun z => absurd e1 z, fun _ z => absurd e z⟩
    | cons m us =>
      rw [e1, e2] at hsol
      rw [e2] at hu
      refine ⟨fun t ht => ?_, fun z => by rw [hsol] at z; cases z⟩
      rw [hsol] at ht
      cases ht
      have hm := hu m (List.mem_cons_self ..)
      have z := foldl_meet_z (W := W) us m hm.1 hm.2 fun x hx => hu x (List.mem_cons_of_mem _ hx)
      have tu : (us.foldl (PT.meet W) m).uni := by
        have zz_ := PT.z_cases z.1 z.2
        rcases zz_ with e | ⟨k, k4, e⟩
        · exact .inl e
        · rw [e]; exact .inr k4
      have key : ∀ w : PT, w.uni → L.all (sat W w) = w.sub W (us.foldl (PT.meet W) m) := fun w hw => by
        rw [sa, e1, e2, h.meets_ge hw us m hm.1 hm.2 (fun x hx => hu x (List.mem_cons_of_mem _ hx)), List.all_nil, Bool.true_and, List.all_cons]
      exact ⟨tu, by rw [key _ tu]; exact PT.sub_refl .., fun e => (by rw [e] at e2; cases e2), fun z => absurd e1 z, fun _ _ w hw hwa => by rw [← key w hw]; exact hwa⟩
  | cons l ls =>
    rw [e1] at hl
    have hl0 := hl l (List.mem_cons_self ..)
    have hl1 : ∀ x ∈ ls, x.simp := fun x hx => hl x (List.mem_cons_of_mem _ hx)
    have js := h.simp_joins ls l hl0 hl1
    have ju : (ls.foldl (PT.join W) l).uni := .inr js
    have ne : L ≠ [] := fun e => by rw [e] at e1; cases e1
    cases e2 : pickT false L with
    | nil =>
      rw [e1, e2] at hsol
      refine ⟨fun t ht => ?_, fun z => by rw [hsol] at z; cases z⟩
      rw [hsol] at ht
      cases ht
      have key : ∀ w : PT, w.uni → L.all (sat W w) = (ls.foldl (PT.join W) l).sub W w := fun w hw => by
        rw [sa, e1, e2, h.joins_le hw ls l hl0 hl1, List.all_nil, Bool.and_true, List.all_cons]
      exact ⟨ju, by rw [key _ ju]; exact PT.sub_refl .., fun e => absurd e ne, fun _ w hw hwa => by rw [← key w hw]; exact hwa, fun z => by rw [e1] at z; cases z⟩
    | cons m us =>
      rw [e1, e2] at hsol
      rw [e2] at hu
      have hm := hu m (List.mem_cons_self ..)
      have hm1 : ∀ x ∈ us, x.ty ∧ x.dep ≤ 0 := fun x hx => hu x (List.mem_cons_of_mem _ hx)
      have z := foldl_meet_z (W := W) us m hm.1 hm.2 hm1
      have tu : (us.foldl (PT.meet W) m).uni := by
        have zz_ := PT.z_cases z.1 z.2
        rcases zz_ with e | ⟨k, k4, e⟩
        · exact .inl e
        · rw [e]; exact .inr k4
      have key : ∀ w : PT, w.uni → L.all (sat W w) = ((ls.foldl (PT.join W) l).sub W w && w.sub W (us.foldl (PT.meet W) m)) := fun w hw => by
        rw [sa, e1, e2, h.joins_le hw ls l hl0 hl1, h.meets_ge hw us m hm.1 hm.2 hm1, List.all_cons, List.all_cons]
      have hsol' : sol W L = if (ls.foldl (PT.join W) l).sub W (us.foldl (PT.meet W) m) = true then some (ls.foldl (PT.join W) l) else none := hsol
      refine ⟨fun t ht => ?_, fun zn w hw => ?_⟩
      · rw [hsol'] at ht
        split at ht
        · rename_i q
          cases ht
          refine ⟨ju, by rw [key _ ju, PT.sub_refl, q]; rfl, fun e => absurd e ne, fun _ w hw hwa => ?_, fun z => by rw [e1] at z; cases z⟩
          rw [key w hw, Bool.and_eq_true] at hwa
          exact hwa.1
        · cases ht
      · rw [hsol'] at zn
        split at zn
        · cases zn
        · rename_i q
          rw [key w hw]
          cases x : (ls.foldl (PT.join W) l).sub W w with
          | false => rfl
          | true =>
            cases x' : w.sub W (us.foldl (PT.meet W) m) with
            | false => rfl
            | true => exact absurd (h.subTrans ju hw tu x x') q
end
end Mine

/-! M3 -/
namespace Mine
open PySem PySem.W PySem.W.X
/-! the plain law -/
def parOk (p : Par) : Prop := p.1 < 2 ∧ p.2.1.trW p.1 ∧ p.2.1.dep ≤ 2 ∧ p.2.1.filU p.2.2 true
def consP (p : Par) : List Con := p.2.1.cons p.2.2 true
def allC (ps : List Par) : List Con := ps.flatMap consP
def mineP (j : Nat) (ps : List Par) : List Par := ps.filter fun p => p.1 == j
def fitsP (W : Wo) (u : PT) (p : Par) : Bool := p.2.2.sub W (p.2.1.put u)
def rightP (W : Wo) (j : Nat) (ps : List Par) : List PT := univ.filter fun u => (mineP j ps).all (fitsP W u)
def wysP (j : Nat) (ps : List Par) : List Bool := (mineP j ps).flatMap fun p => p.2.1.ways true
def downs (W : Wo) (r : List PT) : List PT := r.filter fun u => r.all fun w => u.sub W w
def ups (W : Wo) (r : List PT) : List PT := r.filter fun u => r.all fun w => w.sub W u
theorem sel_same {j : Nat} {l : List Con} (h : ∀ c ∈ l, c.1 = j) : sel j l = l := List.filter_eq_self.mpr fun c hc => by simp [h c hc]
theorem sel_other {i j : Nat} (ne : i ≠ j) {l : List Con} (h : ∀ c ∈ l, c.1 = i) : sel j l = [] := List.filter_eq_nil_iff.mpr fun c hc => by simp [h c hc, ne]
theorem sel_allC (j : Nat) : ∀ (ps : List Par), (∀ p ∈ ps, parOk p) → sel j (allC ps) = (mineP j ps).flatMap consP
  | [], _ => rfl
  | p :: ps, h => by
    have ih := sel_allC j ps fun q hq => h q (List.mem_cons_of_mem _ hq)
    have hp := h p (List.mem_cons_self ..)
    have hv : ∀ c ∈ consP p, c.1 = p.1 := fun c hc => cons_var p.2.1 p.2.2 true hp.2.1 c hc
    have e : allC (p :: ps) = consP p ++ allC ps := by simp [allC]
    rw [e, sel_app, ih]
    by_cases q : p.1 = j
    · have m : mineP j (p :: ps) = p :: mineP j ps := by simp [mineP, q]
      rw [m, List.flatMap_cons, sel_same (q ▸ hv)]
    · have m : mineP j (p :: ps) = mineP j ps := by simp [mineP, q]
      rw [m, sel_other q hv]; rfl
def fixP (W : Wo) (p : Par) : Bool := p.2.1.fix W p.2.2 true
theorem parOk.tr {p : Par} (h : parOk p) : p.2.1.tr := PT.trW_tr h.1 h.2.1
theorem fitsP_eq (W : Wo) (u : PT) {p : Par} (h : parOk p) : fitsP W u p = (fixP W p && (consP p).all (sat W u)) := by
  have := fit_eq W u p.2.1 p.2.2 true h.tr h.2.2.2
  rw [if_pos rfl] at this
  exact this
theorem fits_all (W : Wo) (u : PT) : ∀ (ps : List Par), (∀ p ∈ ps, parOk p) → ps.all (fitsP W u) = (ps.all (fixP W) && (ps.flatMap consP).all (sat W u))
  | [], _ => rfl
  | p :: ps, h => by
    rw [List.all_cons, fits_all W u ps fun q hq => h q (List.mem_cons_of_mem _ hq), fitsP_eq W u (h p (List.mem_cons_self ..)), List.flatMap_cons, List.all_append, List.all_cons]
    have : ∀ A B C D : Bool, ((A && B) && (C && D)) = ((A && C) && (B && D)) := by decide
    exact this _ _ _ _
theorem wys_eq (ps : List Par) : (∀ p ∈ ps, parOk p) → (ps.flatMap fun p => p.2.1.ways true) = (ps.flatMap consP).map (·.2.1) := by
  intro h
  induction ps with
  | nil => rfl
  | cons p ps ih =>
    have hp := h p (List.mem_cons_self ..)
    rw [List.flatMap_cons, List.flatMap_cons, List.map_append, ih fun q hq => h q (List.mem_cons_of_mem _ hq)]
    congr 1
    exact (cons_ways p.2.1 p.2.2 true hp.tr hp.2.2.2).symm
theorem head_of {l : List PT} {t : PT} (m : t ∈ l) (u : ∀ x ∈ l, x = t) : ∃ r, l = t :: r := by
  cases l with
  | nil => cases m
  | cons x l => exact ⟨l, by rw [u x (List.mem_cons_self ..)]⟩
section
variable {W : Wo} (h : ParOk W) {ps : List Par} (hp : ∀ p ∈ ps, parOk p)
include h hp
theorem allC_ok : ∀ c ∈ allC ps, c.2.2.simp ∧ (c.2.1 = false → c.2.2.dep ≤ 0) := fun c hc => by
  have zz_ := List.mem_flatMap.mp hc
  obtain ⟨p, hq, hc⟩ := zz_
  exact cons_ok p.2.1 p.2.2 true (hp p hq).tr (hp p hq).2.2.2 c hc
theorem right_iff (j : Nat) (u : PT) : u ∈ rightP W j ps ↔ u.uni ∧ (mineP j ps).all (fixP W) = true ∧ (sel j (allC ps)).all (sat W u) = true := by
  have hm : ∀ p ∈ mineP j ps, parOk p := fun p q => hp p (List.mem_filter.mp q).1
  rw [rightP, List.mem_filter, fits_all W u _ hm, Bool.and_eq_true, sel_allC j ps hp]
  exact ⟨fun q => ⟨univ_uni u q.1, q.2⟩, fun q => ⟨uni_univ q.1, q.2⟩⟩
/-- no answer: nothing fits -/
theorem none_right (j : Nat) (e : sol W (sel j (allC ps)) = none) : rightP W j ps = [] := by
  have hc := allC_ok h hp
  have z := (h.solve_spec (L := sel j (allC ps)) fun c q => hc c (List.mem_filter.mp q).1).2 e
  refine List.eq_nil_iff_forall_not_mem.mpr fun u hu => ?_
  have zz_ := (right_iff h hp j u).mp hu
  obtain ⟨a, _, b⟩ := zz_
  rw [z u a] at b; cases b
/-- something fits: the answer is the best -/
theorem right_best (j : Nat) (e : rightP W j ps ≠ []) : ∃ t, sol W (sel j (allC ps)) = some t ∧ t.uni ∧ (mineP j ps).all (fitsP W t) = true ∧ (wysP j ps = [] → t = .leaf 9) ∧
    ((wysP j ps).any id = true → ∃ r, downs W (rightP W j ps) = t :: r) ∧ (wysP j ps ≠ [] → (wysP j ps).any id = false → ∃ r, ups W (rightP W j ps) = t :: r) := by
  have hc := allC_ok h hp
  have sp := h.solve_spec (L := sel j (allC ps)) fun c q => hc c (List.mem_filter.mp q).1
  have hm : ∀ p ∈ mineP j ps, parOk p := fun p q => hp p (List.mem_filter.mp q).1
  cases q : sol W (sel j (allC ps)) with
  | none => exact absurd (none_right h hp j q) e
  | some t =>
    have b := sp.1 t q
    have zz_ := List.exists_mem_of_ne_nil _ e
    obtain ⟨u, hu⟩ := zz_
    have zz_ := (right_iff h hp j u).mp hu
    obtain ⟨u1, u2, u3⟩ := zz_
    have ht : t ∈ rightP W j ps := (right_iff h hp j t).mpr ⟨b.mem, u2, b.ok⟩
    have hw : wysP j ps = (sel j (allC ps)).map (·.2.1) := by rw [wysP, wys_eq _ hm, sel_allC j ps hp]
    have rm : ∀ w ∈ rightP W j ps, w.uni ∧ (sel j (allC ps)).all (sat W w) = true := fun w hw => by
      have zz_ := (right_iff h hp j w).mp hw
      obtain ⟨a, _, c⟩ := zz_
      exact ⟨a, c⟩
    refine ⟨t, rfl, b.mem, ?_, ?_, ?_, ?_⟩
    · rw [fits_all W t _ hm, u2, ← sel_allC j ps hp, b.ok]; rfl
    · intro z
      rw [hw] at z
      exact b.none (List.map_eq_nil_iff.mp z)
    · intro z
      have ne : pickT true (sel j (allC ps)) ≠ [] := by
        rw [hw] at z
        have zz_ := List.any_eq_true.mp z
        obtain ⟨x, hx, hx'⟩ := zz_
        have zz_ := List.mem_map.mp hx
        obtain ⟨c, hc1, hc2⟩ := zz_
        intro z
        have : c.2.2 ∈ pickT true (sel j (allC ps)) := List.mem_map.mpr ⟨c, List.mem_filter.mpr ⟨hc1, by rw [hc2]; simpa using hx'⟩, rfl⟩
        rw [z] at this; cases this
      have le := b.least ne
      refine head_of (List.mem_filter.mpr ⟨ht, List.all_eq_true.mpr fun w hw => le w (rm w hw).1 (rm w hw).2⟩) fun x hx => ?_
      have zz_ := List.mem_filter.mp hx
      obtain ⟨x1, x2⟩ := zz_
      exact h.subAnti (rm x x1).1 b.mem (List.all_eq_true.mp x2 t ht) (le x (rm x x1).1 (rm x x1).2)
    · intro z z'
      have ne : sel j (allC ps) ≠ [] := fun e => z (by rw [hw, e]; rfl)
      have em : pickT true (sel j (allC ps)) = [] := by
        refine List.eq_nil_iff_forall_not_mem.mpr fun s hs => ?_
        have zz_ := pickT_mem hs
        obtain ⟨c, hc1, hc2, _⟩ := zz_
        rw [hw] at z'
        have := List.any_eq_false.mp z' c.2.1 (List.mem_map.mpr ⟨c, hc1, rfl⟩)
        exact this (by rw [hc2]; rfl)
      have ge := b.great em ne
      refine head_of (List.mem_filter.mpr ⟨ht, List.all_eq_true.mpr fun w hw => ge w (rm w hw).1 (rm w hw).2⟩) fun x hx => ?_
      have zz_ := List.mem_filter.mp hx
      obtain ⟨x1, x2⟩ := zz_
      exact h.subAnti (rm x x1).1 b.mem (ge x (rm x x1).1 (rm x x1).2) (List.all_eq_true.mp x2 t ht)
def holdsP (W : Wo) (t0 t1 : PT) (p : Par) : Bool := p.2.2.sub W (p.2.1.exp (pick2 t0 t1))
theorem holds_eq (W' : Wo) {p : Par} (hq : parOk p) (t0 t1 : PT) : holdsP W' t0 t1 p = fitsP W' (pick2 t0 t1 p.1) p := by
  unfold holdsP fitsP
  rw [exp_put hq.1 t0 t1 p.2.1 hq.2.1]
theorem holds_yes {t0 t1 : PT} (a : (mineP 0 ps).all (fitsP W t0) = true) (b : (mineP 1 ps).all (fitsP W t1) = true) : ps.all (holdsP W t0 t1) = true := by
  refine List.all_eq_true.mpr fun p hq => ?_
  rw [holds_eq h hp W (hp p hq)]
  have := (hp p hq).1
  have : p.1 = 0 ∨ p.1 = 1 := by omega
  rcases this with e | e
  · rw [e]; exact List.all_eq_true.mp a p (List.mem_filter.mpr ⟨hq, by simp [e]⟩)
  · rw [e]; exact List.all_eq_true.mp b p (List.mem_filter.mpr ⟨hq, by simp [e]⟩)
theorem holds_no {t0 t1 : PT} (s0 : t0.uni) (s1 : t1.uni) (q : rightP W 0 ps = [] ∨ rightP W 1 ps = []) : ps.all (holdsP W t0 t1) = false := by
  cases z : ps.all (holdsP W t0 t1) with
  | false => rfl
  | true =>
    exfalso
    have key : ∀ j, j < 2 → (pick2 t0 t1 j).uni → rightP W j ps ≠ [] := fun j hj hu e => by
      have : pick2 t0 t1 j ∈ rightP W j ps := List.mem_filter.mpr ⟨uni_univ hu, List.all_eq_true.mpr fun p hq => by
        have zz_ := List.mem_filter.mp hq
        obtain ⟨q1, q2⟩ := zz_
        have q2 : p.1 = j := by simpa using q2
        have := List.all_eq_true.mp z p q1
        rw [holds_eq h hp W (hp p q1), q2] at this
        exact this⟩
      rw [e] at this; cases this
    rcases q with q | q
    · exact key 0 (by omega) s0 q
    · exact key 1 (by omega) s1 q
end
end Mine

/-! All -/
namespace Mine
open PySem PySem.W PySem.W.X
open Lean Elab Tactic in
def walkA (specs : List Name := []) : TacticM Unit :=
  walkTacX specs (do evalTactic (← `(tactic| first | assumption | rfl | omega))) 3000 [] false [] true []
theorem bvs_get {bs : List Bool} {i : Nat} {b : Bool} (h : bs[i]? = some b) : (bvs bs)[i]? = some (.bool b) := by
  simp [bvs, h]
theorem bvs_end {bs : List Bool} {i : Nat} (h : bs[i]? = none) : (bvs bs)[i]? = none := by
  simp only [bvs, List.getElem?_map, h, Option.map_none]
theorem all_loop (y : Wd) (l : Addr) (bs : List Bool) (m : Nat) : ∀ (k i : Nat) (g0 : Gm) (d u : Nat) (it : Addr), bs.length - i = k → KIn (tops y) g0 → d + 9 < recursionLimit → u + 60 < cLine → g0 l = some (lstO (bvs bs) m) →
    PuL (cx y) g0 d u (.builtin "all.loop" ⟨[.ref it], []⟩) it (liO l i) (fun g' o' r => r = .ok (.ret (.bool ((bs.drop i).all id)))) := by
  intro k
  induction k with
  | zero =>
    intro i g0 d u it hk' hK0 hd hu hl
    have hx : (bvs bs)[i]? = none := bvs_end (List.getElem?_eq_none (by omega))
    rw [List.drop_eq_nil_of_le (by omega)]
    refine pul_of fun F ρ0 tk R hk K => ?_
    run_tac walkA [``next_item, ``next_end]
    all_goals exact K _ _ _ _ _ _ hle rfl rfl
  | succ k ih =>
    intro i g0 d u it hk' hK0 hd hu hl
    have hi : i < bs.length := by omega
    have hx : (bvs bs)[i]? = some (.bool bs[i]) := bvs_get (List.getElem?_eq_getElem hi)
    rw [List.drop_eq_getElem_cons hi, List.all_cons]
    refine pul_of fun F ρ0 tk R hk K => ?_
    generalize bs[i] = b at *
    cases b
    · run_tac walkA [``next_item, ``next_end]
      all_goals exact K _ _ _ _ _ _ hle rfl rfl
    · run_tac walkA [``next_item, ``next_end]
      refine cd_useL 0 (by kernel_rfl) (ih (i + 1) _ _ _ it (by omega) (by assumption) (by show d + 9 < _; omega) (by show u + 60 < _; omega) (by assumption)) fun g' ρ' tk' r o' l p => ?_
      subst p
      exact K _ _ _ _ _ _ (hle.trans l) rfl rfl
theorem all_ok (y : Wd) (g0 : Gm) (d u : Nat) (l : Addr) (bs : List Bool) (m : Nat) (hK0 : KIn (tops y) g0) (hd : d + 12 < recursionLimit) (hu : u + 90 < cLine) (hl : g0 l = some (lstO (bvs bs) m)) :
    Pu (cx y) g0 d u (.call (.builtin "all") ⟨[.ref l], []⟩) (fun g' r => ∃ bl, r = .ok (.ret (.bool bl)) ∧ bl = bs.all id) := by
  refine pu_of fun F ρ0 tk R hk K => ?_
  run_tac walkA [``next_item, ``next_end]
  refine cd_useL 0 (by kernel_rfl) (all_loop y l bs m _ 0 _ _ _ _ rfl (by assumption) (by show d + 9 < _; omega) (by show u + 60 < _; omega) (by assumption)) fun g' ρ' tk' r o' l p => ?_
  subst p
  exact K _ _ _ _ _ (hle.trans l) ⟨_, rfl, rfl⟩
end Mine

/-! PuN -/
namespace Mine
open PySem PySem.Spec PySem.Calls PyProof.Rows PySem.W PySem.W.X
/-! a contract that changes some objects: an iterator, a list, a frame, cells -/
def PuN (X : Cx) (g : Gm) (d u : Nat) (c : Code) (os : List (Addr × Obj)) (Post : Gm → List Obj → Result → Prop) : Prop :=
  ∀ (h : Heap) (tk : Nat), Inh g h → (∀ p ∈ os, h.get? p.1 = some p.2 ∧ g p.1 = none) → (os.map (·.1)).Nodup → ∀ R : Result → Shared → Prop,
    (∀ (g' : Gm) (h' : Heap) (tk' : Nat) (r : Result) (os' : List Obj), Le g g' → Inh g' h' → (∀ b x, b ∉ os.map (·.1) → h.get? b = some x → h'.get? b = some x) → os'.length = os.length → (∀ (i : Nat) (p : Addr × Obj) (o' : Obj), os[i]? = some p → os'[i]? = some o' → h'.get? p.1 = some o') → h.objs.size ≤ h'.objs.size → (∀ b, b < h.objs.size → g' b = g b) → Post g' os' r → R r (X.sh h' tk')) →
    codeAny X.M (Ar d u) c R (X.sh h tk)
def fitsL : Tr → List (Addr × Obj) → List Obj → Prop
  | _, [], [] => True
  | x :: T, p :: os, o :: os' => x = some (p.1, o) ∧ fitsL T os os'
  | _, _, _ => False
theorem fitsL.spec : ∀ {T : Tr} {os : List (Addr × Obj)} {os' : List Obj}, fitsL T os os' → os'.length = os.length ∧ ∀ (i : Nat) (p : Addr × Obj) (o' : Obj), os[i]? = some p → os'[i]? = some o' → tget T i = some (p.1, o')
  | T, [], [], _ => ⟨rfl, fun i p o' e => by simp at e⟩
  | x :: T, p :: os, o :: os', h => by
    have zz_ := fitsL.spec h.2
    obtain ⟨l, s⟩ := zz_
    refine ⟨by simp [l], fun i q o' e e' => ?_⟩
    cases i with
    | zero =>
      simp only [List.getElem?_cons_zero, Option.some.injEq] at e e'
      subst e; subst e'; exact h.1
    | succ i =>
      simp only [List.getElem?_cons_succ] at e e'
      exact s i q o' e e'
  | [], p :: os, o :: os', h => h.elim
  | T, [], o :: os', h => by cases T <;> exact h.elim
  | T, p :: os, [], h => by cases T <;> exact h.elim
theorem tget_map : ∀ (os : List (Addr × Obj)) (k : Nat) (p : Addr × Obj), tget (os.map some) k = some p → os[k]? = some p
  | [], k, p, e => by cases k <;> exact nomatch e
  | q :: os, 0, p, e => by
    have : some q = some p := e
    cases this; rfl
  | q :: os, k + 1, p, e => tget_map os k p e
theorem tlen_map : ∀ (os : List (Addr × Obj)), tlen (os.map some) = os.length
  | [] => rfl
  | _ :: os => congrArg (· + 1) (tlen_map os)
def tputAll : Tr → List Nat → List (Addr × Obj) → List Obj → Tr
  | T, k :: ks, p :: os, o :: os' => tputAll (tput T k (some (p.1, o))) ks os os'
  | T, _, _, _ => T
theorem tlen_tputAll : ∀ (T : Tr) (ks : List Nat) (os : List (Addr × Obj)) (os' : List Obj), tlen (tputAll T ks os os') = tlen T
  | T, [], _, _ => by simp [tputAll]
  | T, _ :: _, [], _ => by simp [tputAll]
  | T, _ :: _, _ :: _, [] => by simp [tputAll]
  | T, k :: ks, p :: os, o :: os' => by
    show tlen (tputAll (tput T k (some (p.1, o))) ks os os') = _
    rw [tlen_tputAll, tlen_tput]
theorem tget_tputAll : ∀ (T : Tr) (ks : List Nat) (os : List (Addr × Obj)) (os' : List Obj), ks.Nodup → (∀ (i k : Nat) (p : Addr × Obj), ks[i]? = some k → os[i]? = some p → tget T k = some p) → ks.length = os.length → os'.length = os.length → ∀ (j : Nat) (q : Addr × Obj), tget (tputAll T ks os os') j = some q → (∃ (i : Nat) (p : Addr × Obj) (o' : Obj), ks[i]? = some j ∧ os[i]? = some p ∧ os'[i]? = some o' ∧ q = (p.1, o')) ∨ (j ∉ ks ∧ tget T j = some q)
  | T, [], os, os', _, _, _, _, j, q, e => .inr ⟨by simp, by simpa [tputAll] using e⟩
  | T, k :: ks, [], os', _, _, l, _, j, q, e => by simp at l
  | T, k :: ks, p :: os, [], _, _, _, l, j, q, e => by simp at l
  | T, k :: ks, p :: os, o :: os', nd, h, l, l', j, q, e => by
    have e : tget (tputAll (tput T k (some (p.1, o))) ks os os') j = some q := e
    have nd' := List.nodup_cons.mp nd
    have hk := h 0 k p rfl rfl
    have hh : ∀ (i k' : Nat) (p' : Addr × Obj), ks[i]? = some k' → os[i]? = some p' → tget (tput T k (some (p.1, o))) k' = some p' := fun i k' p' e1 e2 => by
      have ne : k' ≠ k := fun w => nd'.1 (w ▸ List.mem_of_getElem? e1)
      rw [tget_tput, if_neg (fun w => ne w.1)]
      exact h (i + 1) k' p' e1 e2
    have zz_ := tget_tputAll _ ks os os' nd'.2 hh (by simpa using l) (by simpa using l') j q e
    rcases zz_ with ⟨i, p', o', a, b, c, d⟩ | ⟨nm, e⟩
    · exact .inl ⟨i + 1, p', o', a, b, c, d⟩
    · rw [tget_tput] at e
      by_cases w : j = k
      · rw [if_pos ⟨w, tget_lt hk⟩] at e
        cases e
        exact .inl ⟨0, p, o, by rw [w]; rfl, rfl, rfl, rfl⟩
      · rw [if_neg (fun z => w z.1)] at e
        exact .inr ⟨by simp [w, nm], e⟩
section
variable {X : Cx} {F : Frm} {g : Gm} {T : Tr} {ρ : Nat → Addr} {tk d u : Nat} {c : Code} {R : Result → Shared → Prop} {os : List (Addr × Obj)} {Post : Gm → List Obj → Result → Prop}
theorem pun_of (P : ∀ (F : Frm) (ρ : Nat → Addr) (tk : Nat) (R : Result → Shared → Prop), F.k₀ = os.length → (∀ (g' : Gm) (T' : Tr) (ρ' : Nat → Addr) (tk' : Nat) (r : Result) (os' : List Obj), Le g g' → fitsL T' os os' → Post g' os' r → En X F g' T' ρ' tk' (R r)) → Cd X F g (os.map some) ρ (tk + 0) d u c R) : PuN X g d u c os Post := fun h tk hg ho nd R K => by
  refine P ⟨fun b => if b ∈ os.map (·.1) then none else h.get? b, h.objs.size, g, os.length⟩ (fun i => h.objs.size + (i - tlen (os.map some))) tk R rfl
    (fun g' T' ρ' tk' r os' l fi hp h' S => K g' h' tk' r os' l S.vis (fun b x m q => S.hid b x ((if_neg m).trans q)) fi.spec.1 (fun i p o' e e' => (S.own i _ (fi.spec.2 i p o' e e')).1) S.siz S.old hp) h ?_
  refine ⟨hg, fun b x q => ?_, fun k p e => ?_, fun k k' p p' e e' w => ?_, fun i _ => rfl, Nat.le_refl _, fun _ _ => rfl⟩
  · by_cases w : b ∈ os.map (·.1)
    · exact absurd ((if_pos w).symm.trans q) (by intro z; cases z)
    · exact (if_neg w).symm.trans q
  · have e' := tget_map os k p e
    have m := List.mem_of_getElem? e'
    have lt := (List.getElem?_eq_some_iff.mp e').1
    exact ⟨(ho p m).1, (ho p m).2, if_pos (List.mem_map.mpr ⟨p, m, rfl⟩), fun w => absurd (show os.length ≤ k from w) (Nat.not_le.mpr lt)⟩
  · have e1 := tget_map os k p e
    have e2 := tget_map os k' p' e'
    have lt := (List.getElem?_eq_some_iff.mp e1).1
    have z1 : (os.map (·.1))[k]? = some p.1 := by rw [List.getElem?_map, e1]; rfl
    have z2 : (os.map (·.1))[k']? = some p.1 := by rw [List.getElem?_map, e2, w]; rfl
    exact (List.getElem?_inj (by rw [List.length_map]; exact lt) nd).mp (z1.trans z2.symm)
theorem cd_useN (ks : List Nat) (e : ∀ (i k : Nat) (p : Addr × Obj), ks[i]? = some k → os[i]? = some p → tget T k = some p) (nk : ks.Nodup) (lk : ks.length = os.length) (C : PuN X g d u c os Post)
    (x : ∀ (g' : Gm) (ρ' : Nat → Addr) (tk' : Nat) (r : Result) (os' : List Obj), Le g g' → Post g' os' r → En X F g' (tputAll T ks os os') ρ' tk' (R r)) : Cd X F g T ρ tk d u c R := fun h S => by
  have at_ : ∀ p ∈ os, ∃ k ∈ ks, tget T k = some p := fun p hp => by
    have zz_ := List.getElem?_of_mem hp
    obtain ⟨i, hi⟩ := zz_
    have lt := (List.getElem?_eq_some_iff.mp hi).1
    have : ks[i]? = some ks[i] := List.getElem?_eq_getElem (by rw [lk]; exact lt)
    exact ⟨_, List.getElem_mem _, e i _ p this hi⟩
  have nd : (os.map (·.1)).Nodup := by
    refine List.pairwise_iff_getElem.mpr fun i j hi hj hij z => ?_
    rw [List.length_map] at hi hj
    rw [List.getElem_map, List.getElem_map] at z
    have ki : ks[i]? = some (ks[i]'(by omega)) := List.getElem?_eq_getElem _
    have kj : ks[j]? = some (ks[j]'(by omega)) := List.getElem?_eq_getElem _
    have q := S.inj _ _ _ _ (e i _ _ ki (List.getElem?_eq_getElem hi)) (e j _ _ kj (List.getElem?_eq_getElem hj)) z
    have : i = j := (List.getElem?_inj (by omega) nk).mp (by rw [ki, kj, q])
    omega
  refine C h tk S.vis (fun p hp => ?_) nd R fun g' h' tk' r os' l hi kp lo ho sz ol hp => x g' (fun i => h'.objs.size + (i - tlen T)) tk' r os' l hp h' ?_
  · have zz_ := at_ p hp
    obtain ⟨k, _, q⟩ := zz_
    have y := S.own k _ q
    exact ⟨y.1, y.2.1⟩
  have tg := tget_tputAll T ks os os' nk e lk lo
  have inOs : ∀ b, b ∈ os.map (·.1) → F.H b = none := fun b hb => by
    have zz_ := List.mem_map.mp hb
    obtain ⟨p, hp, rfl⟩ := zz_
    have zz_ := at_ p hp
    obtain ⟨k, _, q⟩ := zz_
    exact (S.own k _ q).2.2.1
  refine ⟨hi, fun b x q => kp b x (fun w => by rw [inOs b w] at q; cases q) (S.hid b x q), fun j p q => ?_, fun j j' p p' q q' w => ?_, fun i _ => ?_, Nat.le_trans S.siz sz, fun b hb => (ol b (Nat.lt_of_lt_of_le hb S.siz)).trans (S.old b hb)⟩
  · have zz_ := tg j p q
    rcases zz_ with ⟨i, p0, o', a, b, cc, rfl⟩ | ⟨nm, q⟩
    · have y := S.own j _ (e i j p0 a b)
      exact ⟨ho i p0 o' b cc, (ol _ (Heap.lt_size y.1)).trans y.2.1, y.2.2⟩
    · have y := S.own j p q
      refine ⟨kp _ _ (fun w => ?_) y.1, (ol _ (Heap.lt_size y.1)).trans y.2.1, y.2.2⟩
      have zz_ := List.mem_map.mp w
      obtain ⟨p0, hp0, w⟩ := zz_
      have zz_ := at_ p0 hp0
      obtain ⟨k, hk, q0⟩ := zz_
      exact nm ((S.inj j k p p0 q q0 w.symm) ▸ hk)
  · have back : ∀ j p, tget (tputAll T ks os os') j = some p → ∃ p₀, tget T j = some p₀ ∧ p₀.1 = p.1 := fun j p q => by
      have zz_ := tg j p q
      rcases zz_ with ⟨i, p0, o', a, b, cc, rfl⟩ | ⟨_, q⟩
      · exact ⟨p0, e i j p0 a b, rfl⟩
      · exact ⟨p, q, rfl⟩
    have zz_ := back j p q
    obtain ⟨p₀, q₀, w₀⟩ := zz_
    have zz_ := back j' p' q'
    obtain ⟨p₁, q₁, w₁⟩ := zz_
    exact S.inj j j' p₀ p₁ q₀ q₁ (w₀.trans (w.trans w₁.symm))
  · rw [tlen_tputAll]
/-- on with the tree behind a call -/
theorem en_kr {A : Around} {k : Result → Sem Fin} {r : Result} (e : A = Ar d u) (x : St X F g T ρ tk d u c (k r) R) : En X F g T ρ tk (Kr X A c k R r) := by subst e; exact x
end
end Mine

/-! W1 -/
namespace Mine
open PySem PySem.W PySem.W.X
def i2 (b : Bool) : Int := match b with | true => 1 | false => 0
def i3 (b c : Bool) : Int := match b with | true => (match c with | true => 2 | false => 1) | false => 0
theorem draw2_ok (y : Wd) (g0 : Gm) (d u : Nat) (a : Addr) (xs : List Value) (m k : Nat) (hK0 : KIn (tops y) g0) (hd : d + 9 < recursionLimit) (hu : u + 60 < cLine) (h64 : xs.length ≤ 64) (hi : AllI xs) :
    PuL (cx y) g0 d u (.call (.ref 1191) ⟨[.ref a, .int 2 k], []⟩) a (lstO xs m) (fun g' o' r => ∃ xs' m' b tk, o' = lstO xs' m' ∧ r = .ok (.ret (.int (i2 b) tk)) ∧ AllI xs' ∧ xs'.length ≤ 64 ∧ 0 ≤ i2 b ∧ i2 b ≤ 2) := by
  intro h tk hg ho hn R K
  refine draw_ok y g0 d u a xs m 2 k hK0 hd hu (by omega) h64 hi h tk hg ho hn R fun g' h' tk' r o' l i kp e sz ol p => K g' h' tk' r o' l i kp e sz ol ?_
  obtain ⟨xs', m', c, tk2, rfl, rfl, q1, q2, q3⟩ := p
  have : c = 0 ∨ c = 1 := by omega
  rcases this with rfl | rfl
  · exact ⟨xs', m', false, tk2, rfl, rfl, q1, q2, by decide, by decide⟩
  · exact ⟨xs', m', true, tk2, rfl, rfl, q1, q2, by decide, by decide⟩
theorem draw3_ok (y : Wd) (g0 : Gm) (d u : Nat) (a : Addr) (xs : List Value) (m k : Nat) (hK0 : KIn (tops y) g0) (hd : d + 9 < recursionLimit) (hu : u + 60 < cLine) (h64 : xs.length ≤ 64) (hi : AllI xs) :
    PuL (cx y) g0 d u (.call (.ref 1191) ⟨[.ref a, .int 3 k], []⟩) a (lstO xs m) (fun g' o' r => ∃ xs' m' b c tk, o' = lstO xs' m' ∧ r = .ok (.ret (.int (i3 b c) tk)) ∧ AllI xs' ∧ xs'.length ≤ 64 ∧ 0 ≤ i3 b c ∧ i3 b c ≤ 2) := by
  intro h tk hg ho hn R K
  refine draw_ok y g0 d u a xs m 3 k hK0 hd hu (by omega) h64 hi h tk hg ho hn R fun g' h' tk' r o' l i kp e sz ol p => K g' h' tk' r o' l i kp e sz ol ?_
  obtain ⟨xs', m', c, tk2, rfl, rfl, q1, q2, q3⟩ := p
  have : c = 0 ∨ c = 1 ∨ c = 2 := by omega
  rcases this with rfl | rfl | rfl
  · exact ⟨xs', m', false, false, tk2, rfl, rfl, q1, q2, by decide, by decide⟩
  · exact ⟨xs', m', true, false, tk2, rfl, rfl, q1, q2, by decide, by decide⟩
  · exact ⟨xs', m', true, true, tk2, rfl, rfl, q1, q2, by decide, by decide⟩
open Lean Elab Tactic in
def walkO (specs : List Name := []) (once : List Name := []) (fuel : Nat := 30000) : TacticM Unit :=
  walkTacX specs (do evalTactic (← `(tactic| first | assumption | rfl | omega | (simp only [List.length_append, List.length_nil, List.length_cons, List.nil_append]; omega)))) fuel once true [0] false [1, 2, 3]
def C0 (g0 : Gm) (P : (Nat → Nat) → Nat → Nat → Nat → Bool → Bool → Gm → Nat → Nat → Nat → Nat → Nat → Nat → Nat → Value → Value → Value → Value → Value → Value → Value → Value → List Value → Nat → Nat → Prop) : Prop :=
  ∀ ρr k1 k2 k3 b1 b2 g' t1 t2 t3 t4 t5 t6 t7 vk vr vi vf vp ab il vl xs n pa W, Le g0 g' → Begun g' W ab il vl → AllI xs → xs.length ≤ 64 → vp = .ref pa → P ρr k1 k2 k3 b1 b2 g' t1 t2 t3 t4 t5 t6 t7 vk vr vi vf vp ab il vl xs n pa
noncomputable def lawA (y : Wd) (g0 : Gm) (d u sc m : Nat) (xs : List Value) (hK0 : KIn (tops y) g0) (hd : d + 300 < recursionLimit) (hu : u + 2500 < cLine) (hsc : g0 sc = some (lstO xs m)) (h63 : xs.length ≤ 63) (hi : AllI xs) (F : Frm) (ρ0 : Nat → Addr) (tk : Nat) (R : Result → Shared → Prop) (hk : F.k₀ = 0) :
    { P : (Nat → Nat) → Nat → Nat → Nat → Bool → Bool → Gm → Nat → Nat → Nat → Nat → Nat → Nat → Nat → Value → Value → Value → Value → Value → Value → Value → Value → List Value → Nat → Nat → Prop // C0 g0 P → Cd (cx y) F g0 [] ρ0 (tk + 0) d u (.call (.ref 1239) ⟨[.ref sc], []⟩) R } := by
  have t3 : (0 : Nat) < 3 := by omega
  have hz : xs.length ≤ 100000 := by omega
  have hz1 : (xs.take 63).length ≤ 100000 := by rw [List.length_take]; omega
  have hz2 : (xs.take 63).reverse.length ≤ 64 := by rw [List.length_reverse, List.length_take]; omega
  have hI : AllI (xs.take 63).reverse := fun v hv => hi v (List.mem_of_mem_take (List.mem_reverse.mp hv))
  refine ⟨?P0, ?A0⟩
  case A0 =>
    intro HH
    unfold C0 at HH
    run_tac walkO [``list_slice_upto, ``list_init_ok, ``list_reverse_ok, ``draw2_ok, ``draw3_ok, ``mkIC_ok, ``newId_ok, ``newTV5_ok, ``newTV4_ok, ``newTI0_ok, ``newTI1_ok, ``newTI2_ok, ``newTI3_ok, ``newTIv_ok, ``newTIw_ok] []
    · run_tac mkOut `P0 [0, 1, 2, 3, 4, 5, 6, 7, 9, 55] [.tok 0, .ent 0 2, .ent 0 3, .ent 0 4, .ent 0 5, .ent 0 6, .cel 1, .cel 2, .cel 3, .lst 9, .adr 55]
      exact HH _ _ _ _ _ _ _ _ _ _ _ _ _ _ _ _ _ _ _ _ _ _ _ _ _ _ hle (begun_of 1 2 (by omega) (by omega) (by assumption) (by assumption) (by assumption) (by assumption) (by assumption) (by assumption) (by assumption) (by assumption) (by assumption) (by assumption) (by assumption) (by assumption) (by assumption) (by assumption) (by assumption) (by assumption) (by assumption) (by assumption) (by assumption) (by assumption) (by assumption) (by assumption) (by assumption) (by assumption) (by assumption) (by assumption) (by assumption) (by assumption) (by assumption) (by assumption) (by assumption) (by assumption) (by assumption) (by assumption) (by assumption) (by assumption) (by assumption) (by assumption) (by first | rfl | kernel_rfl) (by first | rfl | kernel_rfl) (by first | rfl | kernel_rfl) (by first | rfl | kernel_rfl) (by first | rfl | kernel_rfl) (by first | rfl | kernel_rfl) (by first | rfl | kernel_rfl) (by rfl) (by rfl) (by repeat first | exact .nil | refine .cons ?_) (by repeat first | exact .nil | refine .cons ?_) (by repeat first | exact .nil | refine .cons ?_) (by repeat first | exact .nil | refine .cons ?_)) (by assumption) (by assumption) rfl
    · run_tac mkLoop [0, 1, 2, 3, 4, 5, 6, 7, 9, 55] [.tok 0, .ent 0 2, .ent 0 3, .ent 0 4, .ent 0 5, .ent 0 6, .cel 1, .cel 2, .cel 3, .lst 9, .adr 55]
      exact HH _ _ _ _ _ _ _ _ _ _ _ _ _ _ _ _ _ _ _ _ _ _ _ _ _ _ hle (begun_of 1 1 (by omega) (by omega) (by assumption) (by assumption) (by assumption) (by assumption) (by assumption) (by assumption) (by assumption) (by assumption) (by assumption) (by assumption) (by assumption) (by assumption) (by assumption) (by assumption) (by assumption) (by assumption) (by assumption) (by assumption) (by assumption) (by assumption) (by assumption) (by assumption) (by assumption) (by assumption) (by assumption) (by assumption) (by assumption) (by assumption) (by assumption) (by assumption) (by assumption) (by assumption) (by assumption) (by assumption) (by assumption) (by assumption) (by assumption) (by assumption) (by first | rfl | kernel_rfl) (by first | rfl | kernel_rfl) (by first | rfl | kernel_rfl) (by first | rfl | kernel_rfl) (by first | rfl | kernel_rfl) (by first | rfl | kernel_rfl) (by first | rfl | kernel_rfl) (by rfl) (by rfl) (by repeat first | exact .nil | refine .cons ?_) (by repeat first | exact .nil | refine .cons ?_) (by repeat first | exact .nil | refine .cons ?_) (by repeat first | exact .nil | refine .cons ?_)) (by assumption) (by assumption) rfl
    · run_tac mkLoop [0, 1, 2, 3, 4, 5, 6, 7, 9, 55] [.tok 0, .ent 0 2, .ent 0 3, .ent 0 4, .ent 0 5, .ent 0 6, .cel 1, .cel 2, .cel 3, .lst 9, .adr 55]
      exact HH _ _ _ _ _ _ _ _ _ _ _ _ _ _ _ _ _ _ _ _ _ _ _ _ _ _ hle (begun_of 1 0 (by omega) (by omega) (by assumption) (by assumption) (by assumption) (by assumption) (by assumption) (by assumption) (by assumption) (by assumption) (by assumption) (by assumption) (by assumption) (by assumption) (by assumption) (by assumption) (by assumption) (by assumption) (by assumption) (by assumption) (by assumption) (by assumption) (by assumption) (by assumption) (by assumption) (by assumption) (by assumption) (by assumption) (by assumption) (by assumption) (by assumption) (by assumption) (by assumption) (by assumption) (by assumption) (by assumption) (by assumption) (by assumption) (by assumption) (by assumption) (by first | rfl | kernel_rfl) (by first | rfl | kernel_rfl) (by first | rfl | kernel_rfl) (by first | rfl | kernel_rfl) (by first | rfl | kernel_rfl) (by first | rfl | kernel_rfl) (by first | rfl | kernel_rfl) (by rfl) (by rfl) (by repeat first | exact .nil | refine .cons ?_) (by repeat first | exact .nil | refine .cons ?_) (by repeat first | exact .nil | refine .cons ?_) (by repeat first | exact .nil | refine .cons ?_)) (by assumption) (by assumption) rfl
    · run_tac mkLoop [0, 1, 2, 3, 4, 5, 6, 7, 9, 55] [.tok 0, .ent 0 2, .ent 0 3, .ent 0 4, .ent 0 5, .ent 0 6, .cel 1, .cel 2, .cel 3, .lst 9, .adr 55]
      exact HH _ _ _ _ _ _ _ _ _ _ _ _ _ _ _ _ _ _ _ _ _ _ _ _ _ _ hle (begun_of 0 2 (by omega) (by omega) (by assumption) (by assumption) (by assumption) (by assumption) (by assumption) (by assumption) (by assumption) (by assumption) (by assumption) (by assumption) (by assumption) (by assumption) (by assumption) (by assumption) (by assumption) (by assumption) (by assumption) (by assumption) (by assumption) (by assumption) (by assumption) (by assumption) (by assumption) (by assumption) (by assumption) (by assumption) (by assumption) (by assumption) (by assumption) (by assumption) (by assumption) (by assumption) (by assumption) (by assumption) (by assumption) (by assumption) (by assumption) (by assumption) (by first | rfl | kernel_rfl) (by first | rfl | kernel_rfl) (by first | rfl | kernel_rfl) (by first | rfl | kernel_rfl) (by first | rfl | kernel_rfl) (by first | rfl | kernel_rfl) (by first | rfl | kernel_rfl) (by rfl) (by rfl) (by repeat first | exact .nil | refine .cons ?_) (by repeat first | exact .nil | refine .cons ?_) (by repeat first | exact .nil | refine .cons ?_) (by repeat first | exact .nil | refine .cons ?_)) (by assumption) (by assumption) rfl
    · run_tac mkLoop [0, 1, 2, 3, 4, 5, 6, 7, 9, 55] [.tok 0, .ent 0 2, .ent 0 3, .ent 0 4, .ent 0 5, .ent 0 6, .cel 1, .cel 2, .cel 3, .lst 9, .adr 55]
      exact HH _ _ _ _ _ _ _ _ _ _ _ _ _ _ _ _ _ _ _ _ _ _ _ _ _ _ hle (begun_of 0 1 (by omega) (by omega) (by assumption) (by assumption) (by assumption) (by assumption) (by assumption) (by assumption) (by assumption) (by assumption) (by assumption) (by assumption) (by assumption) (by assumption) (by assumption) (by assumption) (by assumption) (by assumption) (by assumption) (by assumption) (by assumption) (by assumption) (by assumption) (by assumption) (by assumption) (by assumption) (by assumption) (by assumption) (by assumption) (by assumption) (by assumption) (by assumption) (by assumption) (by assumption) (by assumption) (by assumption) (by assumption) (by assumption) (by assumption) (by assumption) (by first | rfl | kernel_rfl) (by first | rfl | kernel_rfl) (by first | rfl | kernel_rfl) (by first | rfl | kernel_rfl) (by first | rfl | kernel_rfl) (by first | rfl | kernel_rfl) (by first | rfl | kernel_rfl) (by rfl) (by rfl) (by repeat first | exact .nil | refine .cons ?_) (by repeat first | exact .nil | refine .cons ?_) (by repeat first | exact .nil | refine .cons ?_) (by repeat first | exact .nil | refine .cons ?_)) (by assumption) (by assumption) rfl
    · run_tac mkLoop [0, 1, 2, 3, 4, 5, 6, 7, 9, 55] [.tok 0, .ent 0 2, .ent 0 3, .ent 0 4, .ent 0 5, .ent 0 6, .cel 1, .cel 2, .cel 3, .lst 9, .adr 55]
      exact HH _ _ _ _ _ _ _ _ _ _ _ _ _ _ _ _ _ _ _ _ _ _ _ _ _ _ hle (begun_of 0 0 (by omega) (by omega) (by assumption) (by assumption) (by assumption) (by assumption) (by assumption) (by assumption) (by assumption) (by assumption) (by assumption) (by assumption) (by assumption) (by assumption) (by assumption) (by assumption) (by assumption) (by assumption) (by assumption) (by assumption) (by assumption) (by assumption) (by assumption) (by assumption) (by assumption) (by assumption) (by assumption) (by assumption) (by assumption) (by assumption) (by assumption) (by assumption) (by assumption) (by assumption) (by assumption) (by assumption) (by assumption) (by assumption) (by assumption) (by assumption) (by first | rfl | kernel_rfl) (by first | rfl | kernel_rfl) (by first | rfl | kernel_rfl) (by first | rfl | kernel_rfl) (by first | rfl | kernel_rfl) (by first | rfl | kernel_rfl) (by first | rfl | kernel_rfl) (by rfl) (by rfl) (by repeat first | exact .nil | refine .cons ?_) (by repeat first | exact .nil | refine .cons ?_) (by repeat first | exact .nil | refine .cons ?_) (by repeat first | exact .nil | refine .cons ?_)) (by assumption) (by assumption) rfl
end Mine

/-! W2 -/
namespace Mine
open PySem PySem.W PySem.W.X

theorem via_start (P : Prop) (h : P) : P := h
open Lean Elab Tactic in
def walkP (specs : List Name := []) (lay : List Nat := []) (fuel : Nat := 30000) : TacticM Unit :=
  walkTacX specs (do evalTactic (← `(tactic| first | assumption | rfl | omega | (simp only [List.length_append, List.length_nil, List.length_cons, List.nil_append]; omega)))) fuel [] true [] true lay
theorem treeL_ok (y : Wd) (j : Nat) (g0 : Gm) (d u : Nat) (a : Addr) (xs : List Value) (m k k' : Nat) (hK0 : KIn (tops y) g0) (hd : d + 28 < recursionLimit) (hu : u + 240 < cLine) (hi : AllI xs) (h64 : xs.length ≤ 64) (hj : j < 2) :
    PuL (cx y) g0 d u (.call (.ref 1198) ⟨[.ref a, .int 2 k, .int j k'], []⟩) a (lstO xs m) (fun g' o' r => ∃ xs' m' c t, o' = lstO xs' m' ∧ r = .ok (.ret (.ref c)) ∧ AllI xs' ∧ xs'.length ≤ 64 ∧ PTIs g' c t ∧ t.trW j ∧ t.tr ∧ t.dep ≤ 2) := by
  intro h tk hg ho hn R K
  refine tree2_ok y j hj g0 d u a xs m k k' hK0 (by omega) (by omega) h64 hi h tk hg ho hn R fun g' h' tk' r o' l i kp e sz ol p => K g' h' tk' r o' l i kp e sz ol ?_
  obtain ⟨xs', m', c, t, e1, e2, e3, e4, e5, e6, e7⟩ := p
  exact ⟨xs', m', c, t, e1, e2, e3, e4, e5, e6, PT.trW_tr hj e6, e7⟩
theorem filL_ok (y : Wd) (t : PT) (g0 : Gm) (d u : Nat) (a b : Addr) (xs : List Value) (m : Nat) (hK0 : KIn (tops y) g0) (hd : d + 28 < recursionLimit) (hu : u + 240 < cLine) (hi : AllI xs) (h64 : xs.length ≤ 64) (hb : PTIs g0 b t) (ht : t.tr) (hdp : t.dep ≤ 2) :
    PuL (cx y) g0 d u (.call (.ref 1205) ⟨[.ref a, .ref b, .bool true], []⟩) a (lstO xs m) (fun g' o' r => ∃ xs' m' c e, o' = lstO xs' m' ∧ r = .ok (.ret (.ref c)) ∧ AllI xs' ∧ xs'.length ≤ 64 ∧ PTIs g' c e ∧ t.filU e true) :=
  fil_ok y 2 t true g0 d u a b xs m ht hdp (by omega) hK0 (by omega) (by omega) h64 hi hb
inductive ParIs : Gm → Value → Par → Prop where
  | mk {g : Gm} {a ta ea j k : Nat} {t e : PT} : g a = some (tupO [.int j k, .ref ta, .ref ea]) → PTIs g ta t → PTIs g ea e → parOk (j, t, e) → ParIs g (.ref a) (j, t, e)
theorem ParIs.mono {g g' : Gm} {v : Value} {p : Par} (l : Le g g') (h : ParIs g v p) : ParIs g' v p := by
  cases h with | mk a b c d => exact .mk (l _ _ a) (b.mono l) (c.mono l) d
inductive ParsAre : Gm → List Value → List Par → Prop where
  | nil {g : Gm} : ParsAre g [] []
  | cons {g : Gm} {v : Value} {vs : List Value} {p : Par} {ps : List Par} : ParIs g v p → ParsAre g vs ps → ParsAre g (v :: vs) (p :: ps)
theorem ParsAre.mono {g g' : Gm} {vs : List Value} {ps : List Par} (l : Le g g') (h : ParsAre g vs ps) : ParsAre g' vs ps := by
  induction h with
  | nil => exact .nil
  | cons a _ ih => exact .cons (a.mono l) ih
theorem ParsAre.snoc {g : Gm} {vs : List Value} {ps : List Par} {v : Value} {p : Par} (h : ParsAre g vs ps) (x : ParIs g v p) : ParsAre g (vs ++ [v]) (ps ++ [p]) := by
  induction h with
  | nil => exact .cons x .nil
  | cons a _ ih => exact .cons a ih
theorem ParsAre.len {g : Gm} {vs : List Value} {ps : List Par} (h : ParsAre g vs ps) : vs.length = ps.length := by
  induction h with
  | nil => rfl
  | cons _ _ ih => simp [ih]
theorem ParsAre.ok {g : Gm} {vs : List Value} {ps : List Par} (h : ParsAre g vs ps) : ∀ p ∈ ps, parOk p := by
  induction h with
  | nil => intro p hp; cases hp
  | cons a _ ih =>
    intro p hp
    have zz_ := List.mem_cons.mp hp
    rcases zz_ with rfl | hp
    · cases a with | mk _ _ _ d => exact d
    · exact ih p hp
structure S1 (g0 g : Gm) (W : Wo) (ab il vl : Value) (xsr ws : List Value) (ps : List Par) (x : Int) (n : Nat) (fx fl : Value) : Prop where
  le : Le g0 g
  begun : Begun g W ab il vl
  drawn : AllI xsr
  short : xsr.length ≤ 64
  pars : ParsAre g ws ps
  count : ps.length + n ≤ 4
  ex : fx = .int x 0
  el : fl = .int n 0
  ne : ps ≠ []
abbrev T1 := (Nat → Nat) → Nat → Nat → Value → Value → Value → Value → Value → Value → Value → Nat → (Nat → Nat) → Gm → Nat → Nat → Nat → Nat → Nat → Nat → Nat → Nat → Nat → Value → Value → Value → List Value → Nat → List Value → Nat → Value → Value → Prop
def C1 (g0 : Gm) (P : T1) : Prop := ∀ ρr k1 k2 vk vr vi vf ab il vl pa ρA g' t1 t2 t3 t4 t5 t6 t7 t8 t9 v1 v2 v3 xsr nr ws nw fx fl W ps x n, S1 g0 g' W ab il vl xsr ws ps x n fx fl →
  P ρr k1 k2 vk vr vi vf ab il vl pa ρA g' t1 t2 t3 t4 t5 t6 t7 t8 t9 v1 v2 v3 xsr nr ws nw fx fl
open Lean Meta Elab Tactic in
/-- the word that the stage ahead laid down -/
def openStage : TacticM Unit := do
  let g ← getMainGoal
  g.withContext do
    let t ← instantiateMVars (← g.getType)
    let a := t.appArg!
    let s := match a with | .proj _ _ s => s | _ => a.appArg!
    let some s' ← unfoldDefinition? s | throwError "openStage: {s}"
    let s' ← whnfCore s'
    unless s'.isAppOfArity ``Subtype.mk 4 do throwError "openStage: {s'.getAppFn}"
    let t' := mkApp t.appFn! s'.getAppArgs[2]!
    let some t'' ← unfoldDefinition? t' | throwError "openStage: the condition"
    replaceMainGoal [← g.replaceTargetDefEq t''.headBeta]
noncomputable def lawB (y : Wd) (g0 : Gm) (d u sc m : Nat) (xs : List Value) (hK0 : KIn (tops y) g0) (hd : d + 300 < recursionLimit) (hu : u + 2500 < cLine) (hsc : g0 sc = some (lstO xs m)) (h63 : xs.length ≤ 63) (hi : AllI xs) (F : Frm) (ρ0 : Nat → Addr) (tk : Nat) (R : Result → Shared → Prop) (hk : F.k₀ = 0) :
    { P : T1 // C1 g0 P → C0 g0 (lawA y g0 d u sc m xs hK0 hd hu hsc h63 hi F ρ0 tk R hk).1 } := by
  refine ⟨?P1, ?A1⟩
  case A1 =>
    intro HH
    run_tac openStage
    intro ρr k1 k2 k3 b1 b2 g' t1 t2 t3 t4 t5 t6 t7 vk vr vi vf vp ab il vl xs1 n pa W hle0 hB hI1 h64 hpa ρA tkA
    subst hpa
    have hK := hK0.mono hle0
    unfold C1 at HH
    cases b1 with
    | false =>
      · run_tac walkP []
        run_tac walkP [``draw_ok, ``treeL_ok, ``filL_ok, ``list_append_ok] [9]
        run_tac mkOut `P1 [0, 1, 2, 3, 4, 5, 6, 7, 8, 9, 11] [.tok 0, .ent 0 7, .ent 0 8, .cel 4, .lst 8, .lst 9, .fld 11 0, .fld 11 1]
        exact HH _ _ _ _ _ _ _ _ _ _ _ _ _ _ _ _ _ _ _ _ _ _ _ _ _ _ _ _ _ _ _ _ _ 1 1 ⟨hle0.trans hle, hB.mono hle, by assumption, by assumption, .cons (.mk (by assumption) (by assumption) (by assumption) ⟨by assumption, by assumption, by assumption, by assumption⟩) .nil, by simp, rfl, rfl, by simp⟩
    | true =>
      cases b2 with
      | false =>
        run_tac walkP []
        run_tac walkP [``draw_ok, ``treeL_ok, ``filL_ok, ``list_append_ok] [9]
        run_tac mkLoop [0, 1, 2, 3, 4, 5, 6, 7, 8, 9, 11] [.tok 0, .ent 0 7, .ent 0 8, .cel 4, .lst 8, .lst 9, .fld 11 0, .fld 11 1]
        exact HH _ _ _ _ _ _ _ _ _ _ _ _ _ _ _ _ _ _ _ _ _ _ _ _ _ _ _ _ _ _ _ _ _ 1 2 ⟨hle0.trans hle, hB.mono hle, by assumption, by assumption, .cons (.mk (by assumption) (by assumption) (by assumption) ⟨by assumption, by assumption, by assumption, by assumption⟩) .nil, by simp, rfl, rfl, by simp⟩
      | true =>
        run_tac walkP []
        run_tac walkP [``draw_ok, ``treeL_ok, ``filL_ok, ``list_append_ok] [9]
        run_tac mkLoop [0, 1, 2, 3, 4, 5, 6, 7, 8, 9, 11] [.tok 0, .ent 0 7, .ent 0 8, .cel 4, .lst 8, .lst 9, .fld 11 0, .fld 11 1]
        exact HH _ _ _ _ _ _ _ _ _ _ _ _ _ _ _ _ _ _ _ _ _ _ _ _ _ _ _ _ _ _ _ _ _ 1 3 ⟨hle0.trans hle, hB.mono hle, by assumption, by assumption, .cons (.mk (by assumption) (by assumption) (by assumption) ⟨by assumption, by assumption, by assumption, by assumption⟩) .nil, by simp, rfl, rfl, by simp⟩
end Mine

/-! W3 -/
namespace Mine
open PySem PySem.W PySem.W.X

inductive PTsAre : Gm → List Value → List PT → Prop where
  | nil {g : Gm} : PTsAre g [] []
  | cons {g : Gm} {a : Addr} {vs : List Value} {t : PT} {ts : List PT} : PTIs g a t → PTsAre g vs ts → PTsAre g (.ref a :: vs) (t :: ts)
theorem PTsAre.mono {g g' : Gm} {vs : List Value} {ts : List PT} (l : Le g g') (h : PTsAre g vs ts) : PTsAre g' vs ts := by
  induction h with
  | nil => exact .nil
  | cons a _ ih => exact .cons (a.mono l) ih
structure S2 (g0 g : Gm) (W : Wo) (ab il vl : Value) (pa ul : Nat) (ps : List Par) : Prop where
  le : Le g0 g
  begun : Begun g W ab il vl
  ne : ps ≠ []
  count : ps.length ≤ 4
  pars : ∃ ws nw, g pa = some (lstO ws nw) ∧ ParsAre g ws ps
  uni : ∃ us nu, g ul = some (lstO us nu) ∧ PTsAre g us univ
abbrev T2 := (Nat → Nat) → Nat → Nat → Value → Value → Value → Value → Value → Value → Value → Nat → Nat → Nat → Nat → Nat → Nat → Nat → Nat → Nat → Nat → Value → Value → Value → (Nat → Nat) → Nat → Gm → Prop
def C2 (g0 : Gm) (P : T2) : Prop := ∀ ρr k1 k2 vk vr vi vf ab il vl pa t1 t2 t3 t4 t5 t6 t7 t8 t9 v1 v2 v3 ρ1 tk1 g W ps, S2 g0 g W ab il vl pa (ρ1 (nat_lit 40)) ps → P ρr k1 k2 vk vr vi vf ab il vl pa t1 t2 t3 t4 t5 t6 t7 t8 t9 v1 v2 v3 ρ1 tk1 g
noncomputable def lawC (y : Wd) (g0 : Gm) (d u sc m : Nat) (xs : List Value) (hK0 : KIn (tops y) g0) (hd : d + 300 < recursionLimit) (hu : u + 2500 < cLine) (hsc : g0 sc = some (lstO xs m)) (h63 : xs.length ≤ 63) (hi : AllI xs) (F : Frm) (ρ0 : Nat → Addr) (tk : Nat) (R : Result → Shared → Prop) (hk : F.k₀ = 0) :
    { P : T2 // C2 g0 P → C1 g0 (lawB y g0 d u sc m xs hK0 hd hu hsc h63 hi F ρ0 tk R hk).1 } := by
  refine ⟨?P2, ?A2⟩
  case A2 =>
    intro HH
    unfold C2 at HH
    run_tac openStage
    intro ρr k1 k2 vk vr vi vf ab il vl pa ρA g' t1 t2 t3 t4 t5 t6 t7 t8 t9 v1 v2 v3 xsr nr ws nw fx fl W ps x n
    induction n generalizing g' v1 v2 v3 xsr nr ws nw fx fl ps x with
    | succ n ih =>
      intro hS ρ1 tk1
      obtain ⟨le0, hBeg, hI, h64, hQ, hc, rfl, rfl, hne⟩ := hS
      have hK := hK0.mono le0
      have hl := hQ.len
      run_tac walkP [``range_next, ``draw_ok, ``treeL_ok, ``filL_ok, ``list_append_ok] [9]
      run_tac mkLoop [0, 1, 2, 3, 4, 5, 6, 7, 8, 9, 10] [.tok 0, .ent 0 7, .ent 0 8, .cel 4, .lst 8, .lst 9, .fld 10 0, .fld 10 1]
      exact ih _ _ _ _ _ _ _ _ _ _ _ _ ⟨le0.trans hle, hBeg.mono hle, by assumption, by assumption, (hQ.mono hle).snoc (.mk (by assumption) (by assumption) (by assumption) ⟨by assumption, by assumption, by assumption, by assumption⟩), by simp only [List.length_append, List.length_cons, List.length_nil]; omega, rfl, rfl, by simp⟩
    | zero =>
      intro hS ρ1 tk1
      obtain ⟨le0, hBeg, hI, h64, hQ, hc, rfl, rfl, hne⟩ := hS
      have hK := hK0.mono le0
      run_tac walkP [] [1009, 1040]
      run_tac mkOut `P2 [0, 1, 2, 3, 4, 5, 6, 7, 41, 42, 43] []
      exact HH _ _ _ _ _ _ _ _ _ _ _ _ _ _ _ _ _ _ _ _ _ _ _ _ _ _ W ps ⟨le0.trans hle, hBeg.mono hle, hne, by omega, ⟨ws, _, by assumption, hQ.mono hle⟩, ⟨_, _, by assumption, .cons (.leaf (by assumption)) (.cons (.leaf (by assumption)) (.cons (.leaf (by assumption)) (.cons (.leaf (by assumption)) (.cons (.leaf (by assumption)) (.cons (.un (by assumption) (.leaf (by assumption))) (.cons (.un (by assumption) (.leaf (by assumption))) (.cons (.un (by assumption) (.leaf (by assumption))) (.cons (.un (by assumption) (.leaf (by assumption))) .nil))))))))⟩⟩
end Mine

/-! W4 -/
namespace Mine
open PySem PySem.W PySem.W.X

def celO (v : Value) : Obj := ⟨.type "cell", none, .cell (some v), #[]⟩
inductive MineIs : Gm → Value → Par → Prop where
  | mk {g : Gm} {a ta ea j : Nat} {t e : PT} : g a = some (tupO [.ref ta, .ref ea]) → PTIs g ta t → PTIs g ea e → parOk (j, t, e) → MineIs g (.ref a) (j, t, e)
theorem MineIs.mono {g g' : Gm} {v : Value} {p : Par} (l : Le g g') (h : MineIs g v p) : MineIs g' v p := by
  cases h with | mk a b c d => exact .mk (l _ _ a) (b.mono l) (c.mono l) d
inductive MinesAre : Gm → List Value → List Par → Prop where
  | nil {g : Gm} : MinesAre g [] []
  | cons {g : Gm} {v : Value} {vs : List Value} {p : Par} {ps : List Par} : MineIs g v p → MinesAre g vs ps → MinesAre g (v :: vs) (p :: ps)
theorem MinesAre.mono {g g' : Gm} {vs : List Value} {ps : List Par} (l : Le g g') (h : MinesAre g vs ps) : MinesAre g' vs ps := by
  induction h with
  | nil => exact .nil
  | cons a _ ih => exact .cons (a.mono l) ih
theorem MinesAre.snoc {g : Gm} {vs : List Value} {ps : List Par} {v : Value} {p : Par} (h : MinesAre g vs ps) (x : MineIs g v p) : MinesAre g (vs ++ [v]) (ps ++ [p]) := by
  induction h with
  | nil => exact .cons x .nil
  | cons a _ ih => exact .cons a ih
abbrev Cd3 := Nat → Nat → Nat → Code
def MineSpec (y : Wd) (ρ0 : Nat → Addr) (c : Cd3) : Prop := ∀ (j k : Nat) (g : Gm) (d u it acc fr pa : Nat) (ws : List Value) (nw : Nat) (ps : List Par), j < 2 → KIn (tops y) g → d + 40 < recursionLimit → u + 200 < cLine → g pa = some (lstO ws nw) → ParsAre g ws ps → ps ≠ [] → ps.length ≤ 4 →
  PuN (cx y) g d u (c it acc fr) [(it, liO pa 0), (acc, lstO [] 0), (fr, dct [] 0), (ρ0 (nat_lit 4), celO (.int j k))] (fun g' os' r => r = .ok .next ∧ ∃ p1 vs n h1 h2 h3 q1 q2 q3 x1 x1' x2 x3 m, os' = [p1, lstO vs n, dct [key h1 q1 "w" (.int x1 x1'), key h2 q2 "tree" (.ref x2), key h3 q3 "arg" (.ref x3)] m, celO (.int j k)] ∧ MinesAre g' vs (mineP j ps))
abbrev Cd4 := Nat → Nat → Nat → Nat → Code
def cel0 : Obj := ⟨.type "cell", none, .cell none, #[]⟩
def RightSpec (y : Wd) (ρ0 : Nat → Addr) (c : Cd4) : Prop := ∀ (W : Wo) (g : Gm) (d u it acc fr uc ul ml ab : Nat) (us vs : List Value) (nu nv : Nat) (ms : List Par), KIn (tops y) g → ParOk W → AbIs g W ab → g (ρ0 (nat_lit 1)) = some (celO (.ref ab)) → d + 80 < recursionLimit → u + 500 < cLine →
  g ul = some (lstO us nu) → PTsAre g us univ → g ml = some (lstO vs nv) → MinesAre g vs ms → ms.length ≤ 4 →
  PuN (cx y) g d u (c it acc fr uc) [(it, liO ul 0), (acc, lstO [] 0), (fr, dct [] 0), (uc, cel0), (ρ0 (nat_lit 5), celO (.ref ml))]
    (fun g' os' r => r = .ok .next ∧ ∃ p1 vs' n x, os' = [p1, lstO vs' n, dct [] 0, celO (.ref x), celO (.ref ml)] ∧ PTsAre g' vs' (univ.filter fun u => ms.all (fitsP W u)))
theorem wlen {t : PT} (h : t.dep ≤ 2) : (bvs (t.ways true)).length ≤ 100 := by
  have := PT.ways_len t true
  have := PT.wsz_dep t 2 h
  rw [bvs, List.length_map]; omega
/-- what stands all through the loop over the two variables -/
structure Base (g0 g : Gm) (ρ0 : Nat → Addr) (W : Wo) (pa ul : Nat) (ps : List Par) : Prop where
  le : Le g0 g
  wo : WoIs g W
  ab : ∃ a, g (ρ0 (nat_lit 1)) = some (celO (.ref a)) ∧ AbIs g W a
  il : ∃ a m, g (ρ0 (nat_lit 2)) = some (celO (.ref a)) ∧ g a = some (lstO [.ref (W.I 0), .ref (W.I 1), .ref (W.I 2), .ref (W.I 3), .ref (W.I 4), .ref (W.I 5), .ref (W.I 6)] m)
  vl : ∃ a m, g (ρ0 (nat_lit 3)) = some (celO (.ref a)) ∧ g a = some (lstO [.ref (W.V 0), .ref (W.V 1)] m)
  ne : ps ≠ []
  count : ps.length ≤ 4
  pars : ∃ ws nw, g pa = some (lstO ws nw) ∧ ParsAre g ws ps
  uni : ∃ us nu, g ul = some (lstO us nu) ∧ PTsAre g us univ
theorem Base.mono {g0 g g' : Gm} {ρ0 : Nat → Addr} {W : Wo} {pa ul : Nat} {ps : List Par} (l : Le g g') (h : Base g0 g ρ0 W pa ul ps) : Base g0 g' ρ0 W pa ul ps :=
  ⟨h.le.trans l, h.wo.mono l, let ⟨a, x, z⟩ := h.ab; ⟨a, l _ _ x, z.mono l⟩, let ⟨a, m, x, z⟩ := h.il; ⟨a, m, l _ _ x, l _ _ z⟩, let ⟨a, m, x, z⟩ := h.vl; ⟨a, m, l _ _ x, l _ _ z⟩, h.ne, h.count, let ⟨a, m, x, z⟩ := h.pars; ⟨a, m, l _ _ x, z.mono l⟩, let ⟨a, m, x, z⟩ := h.uni; ⟨a, m, l _ _ x, z.mono l⟩⟩
structure LoopW (g : Gm) (ml i : Nat) (vw : Value) (ms : List Par) : Prop where
  ex : ∃ vs nv done vs2 rest wl nw, g ml = some (lstO vs nv) ∧ vs.drop i = vs2 ∧ done ++ rest = ms ∧ MinesAre g vs2 rest ∧ vw = .ref wl ∧ g wl = some (lstO (bvs (done.flatMap fun p => p.2.1.ways true)) nw)
abbrev T3n := (Nat → Nat) → Nat → Nat → Value → Value → Value → Value → Nat → Nat → Nat → Nat → Nat → Nat → Nat → Nat → Nat → Nat → Value → Value → (Nat → Nat) → Nat → (Nat → Nat) → (Nat → Addr) → (Nat → Addr) → Nat → List Value → Nat → Gm → Prop
abbrev T3 := (Nat → Nat) → Nat → Nat → Value → Value → Value → Value → Nat → Nat → Nat → Nat → Nat → Nat → Nat → Nat → Nat → Nat → Value → Value → (Nat → Nat) → Nat → (Nat → Nat) → (Nat → Addr) → (Nat → Addr) → Nat → List Value → Nat → Nat → Gm → Nat → Value → Value → Value → Prop
def C3n (g0 : Gm) (ρ0 : Nat → Addr) (P : T3n) : Prop := ∀ ρr k1 k2 vk vr vi vf pa t1 t2 t3 t4 t5 t6 t7 t8 t9 v1 v2 ρ1 tk1 ρ2 ρ3 ρ4 tk4 vr' nr' g W ps, Base g0 g ρ0 W pa (ρ1 (nat_lit 40)) ps → mineP 0 ps = [] → (∃ nv, g (ρ2 (nat_lit 12)) = some (lstO [] nv)) → PTsAre g vr' (rightP W 0 ps) →
  P ρr k1 k2 vk vr vi vf pa t1 t2 t3 t4 t5 t6 t7 t8 t9 v1 v2 ρ1 tk1 ρ2 ρ3 ρ4 tk4 vr' nr' g
def C3 (g0 : Gm) (ρ0 : Nat → Addr) (P : T3) : Prop := ∀ ρr k1 k2 vk vr vi vf pa t1 t2 t3 t4 t5 t6 t7 t8 t9 v1 v2 ρ1 tk1 ρ2 ρ3 ρ4 tk4 vr' nr' tk g i vt vw va W ps, Base g0 g ρ0 W pa (ρ1 (nat_lit 40)) ps → mineP 0 ps ≠ [] → LoopW g (ρ2 (nat_lit 12)) i vw (mineP 0 ps) → PTsAre g vr' (rightP W 0 ps) →
  P ρr k1 k2 vk vr vi vf pa t1 t2 t3 t4 t5 t6 t7 t8 t9 v1 v2 ρ1 tk1 ρ2 ρ3 ρ4 tk4 vr' nr' tk g i vt vw va
noncomputable def lawD (y : Wd) (g0 : Gm) (d u sc m : Nat) (xs : List Value) (hK0 : KIn (tops y) g0) (hd : d + 300 < recursionLimit) (hu : u + 2500 < cLine) (hsc : g0 sc = some (lstO xs m)) (h63 : xs.length ≤ 63) (hi : AllI xs) (F : Frm) (ρ0 : Nat → Addr) (tk : Nat) (R : Result → Shared → Prop) (hk : F.k₀ = 0) :
    { P : Cd3 × Cd4 × T3n × T3 // MineSpec y ρ0 P.1 → RightSpec y ρ0 P.2.1 → C3n g0 ρ0 P.2.2.1 → C3 g0 ρ0 P.2.2.2 → C2 g0 (lawC y g0 d u sc m xs hK0 hd hu hsc h63 hi F ρ0 tk R hk).1 } := by
  refine ⟨(?cM, ?cR, ?P3n, ?P3), ?A3⟩
  case A3 =>
    intro HM HR HN HH
    dsimp only at HM HR HN HH
    unfold C3n at HN
    unfold C3 at HH
    unfold RightSpec at HR
    unfold MineSpec at HM
    run_tac openStage
    intro ρr k1 k2 vk vr vi vf ab il vl pa t1 t2 t3 t4 t5 t6 t7 t8 t9 v1 v2 v3 ρ1 tk1 g1 W ps hS ρ2 tk2
    obtain ⟨le0, hBeg, hne, h4, ⟨ws, nw, fw, hQ⟩, ⟨us, nu, fu, hU⟩⟩ := hS
    have hK := hK0.mono le0
    have zz_ := hBeg.ab
    obtain ⟨aa, rfl, hAb⟩ := zz_
    have zz_ := hBeg.il
    obtain ⟨ii, mi, rfl, hIl⟩ := zz_
    have zz_ := hBeg.vl
    obtain ⟨vv, mv, rfl, hVl⟩ := zz_
    have hPok := hBeg.wo.parOk
    run_tac walkP [] [1001, 1002, 1003]
    run_tac mkCodeT `cM [11, 12, 13]
    have fw1 := hle _ _ fw
    have hBase : Base g0 g ρ0 W pa (ρ1 (nat_lit 40)) ps := ⟨le0.trans hle, hBeg.wo.mono hle, ⟨aa, by assumption, hAb.mono hle⟩, ⟨ii, mi, by assumption, hle _ _ hIl⟩, ⟨vv, mv, by assumption, hle _ _ hVl⟩, hne, h4, ⟨ws, nw, fw1, hQ.mono hle⟩, ⟨us, nu, hle _ _ fu, hU.mono hle⟩⟩
    have fab := ‹g (ρ0 (nat_lit 1)) = some (celO (.ref aa))›
    refine cd_useN [11, 12, 13, 4] ?e (by decide) rfl (HM 0 (Nat.add tk1 (nat_lit 29)) _ _ _ _ _ _ pa ws nw ps (by omega) hK (by show d + 1 + 40 < _; omega) (by show u + 3 + 200 < _; omega) fw1 (hQ.mono hle) hne h4) ?x
    case e => exact (takes.spec (T := _) (ks := [11, 12, 13, 4]) (by exact ⟨by kernel_rfl, by kernel_rfl, by kernel_rfl, by kernel_rfl, trivial⟩)).2
    rintro g2 ρ3 tk3 _ _ le2 ⟨rfl, p1, vs, nv, _, _, _, _, _, _, _, _, _, _, _, rfl, hMi⟩
    run_tac onward
    have hK := hK.mono le2
    have hle1 := hle.trans le2
    have fu2 := hle1 _ _ fu
    have fw2 := hle1 _ _ fw
    have fab2 := le2 _ _ fab
    run_tac walkP [] [1012]
    run_tac mkCodeT `cR [14, 15, 16, 17]
    have leA := hle
    have fml := ‹g (ρ2 (nat_lit 12)) = some (lstO vs nv)›
    have hle2 := hle1.trans hle
    have hlm : (mineP 0 ps).length ≤ 4 := Nat.le_trans (List.length_filter_le ..) h4
    refine cd_useN [14, 15, 16, 17, 5] ?e2 (by decide) rfl (HR W _ _ _ _ _ _ _ _ _ aa us vs nu nv (mineP 0 ps) hK hPok (hAb.mono hle2) (hle _ _ fab2) (by show d + 1 + 80 < _; omega) (by show u + 3 + 500 < _; omega) (hle _ _ fu2) (hU.mono hle2) fml (hMi.mono hle) hlm) ?x2
    case e2 => exact (takes.spec (T := _) (ks := [14, 15, 16, 17, 5]) (by exact ⟨by kernel_rfl, by kernel_rfl, by kernel_rfl, by kernel_rfl, by kernel_rfl, trivial⟩)).2
    rintro g3 ρ4 tk4 _ _ le3 ⟨rfl, p1', vr', nr', xu, rfl, hRi⟩
    run_tac onward
    have hK := hK.mono le3
    have hle3 := hle2.trans le3
    have hBase3 := hBase.mono (le2.trans (leA.trans le3))
    have fu3 := hle3 _ _ fu
    have fw3 := hle3 _ _ fw
    have fab3 := le3 _ _ (hle _ _ fab2)
    have fml3 := le3 _ _ fml
    have wo := ways_ok y 2
    unfold waysSpec at wo
    have n23 : (2 : Nat) ≤ 3 := by omega
    run_tac walkP []
    have hle4 := hle3.trans hle
    cases hm : mineP 0 ps with
    | nil =>
      rw [hm] at hMi
      cases hMi
      run_tac mkOut `P3n [0, 4, 5, 6, 7, 8, 9, 10, 15, 18, 19] []
      exact HN _ _ _ _ _ _ _ _ _ _ _ _ _ _ _ _ _ _ _ _ _ _ _ _ _ _ _ _ W ps (hBase3.mono hle) hm ⟨_, hle _ _ fml3⟩ (hRi.mono hle)
    | cons p0 qs =>
      rw [hm] at hMi
      cases hMi with
      | @cons w0 vs _ _ hm0 hMi =>
      have hx0 : (w0 :: vs)[0]? = some w0 := rfl
      have leM := leA.trans (le3.trans hle)
      have hm0' := hm0.mono leM
      have hMi' := hMi.mono leM
      have fmlg := hle _ _ fml3
      cases hm0' with
      | @mk a0 ta ea j0 tt ee m1 m2 m3 m4 =>
      have mtr : tt.tr := m4.tr
      have mdp : tt.dep ≤ 2 := m4.2.2.1
      have ml1 : (bvs (tt.ways true)).length ≤ 100 := wlen mdp
      have leB := hle
      run_tac walkP [``next_item, ``next_end, ``list_add_ok]
      run_tac mkOut `P3 [0, 4, 5, 6, 7, 8, 9, 10, 15, 19] [.idx 19, .ent 0 8, .ent 0 11, .ent 0 12]
      exact HH _ _ _ _ _ _ _ _ _ _ _ _ _ _ _ _ _ _ _ _ _ _ _ _ _ _ _ _ _ _ _ _ _ W ps (hBase3.mono (leB.trans hle)) (by rw [hm]; simp) ⟨⟨_, _, [(j0, tt, ee)], vs, qs, _, _, hle _ _ fmlg, rfl, by rw [hm]; rfl, hMi'.mono hle, rfl, by
        have : bvs ([(j0, tt, ee)].flatMap fun p : Par => p.2.1.ways true) = [] ++ bvs (tt.ways true) := by simp
        rw [this]; assumption⟩⟩ (hRi.mono (leB.trans hle))
end Mine

/-! W5 -/
namespace Mine
open PySem PySem.W PySem.W.X

open Lean Meta Elab Tactic in
/-- the word of a stage, opened: the goal is C .. (val) -/
def openLast : TacticM Unit := do
  let g ← getMainGoal
  g.withContext do
    let t ← instantiateMVars (← g.getType)
    let v ← whnf t.appArg!
    let t' := mkApp t.appFn! v
    let some t'' ← unfoldDefinition? t' | throwError "openLast: the condition"
    replaceMainGoal [← g.replaceTargetDefEq t''.headBeta]
open Lean Meta Elab Tactic in
/-- the row of a goal written out -/
def normCd : TacticM Unit := do
  let g ← getMainGoal
  g.withContext do
    let ty ← whnfR (← instantiateMVars (← g.getType))
    let a := ty.getAppArgs
    let T := listE (mkApp (mkConst ``Option [0]) entT) (← normTr a[3]!)
    let a := (a.set! 3 T).set! 8 a[8]!.headBeta
    replaceMainGoal [← g.replaceTargetDefEq (mkAppN ty.getAppFn a)]
theorem mine_ok (y : Wd) (g0 : Gm) (d u sc m : Nat) (xs : List Value) (hK0 : KIn (tops y) g0) (hd : d + 300 < recursionLimit) (hu : u + 2500 < cLine) (hsc : g0 sc = some (lstO xs m)) (h63 : xs.length ≤ 63) (hi : AllI xs) (F : Frm) (ρ0 : Nat → Addr) (tk : Nat) (R : Result → Shared → Prop) (hk : F.k₀ = 0) : MineSpec y ρ0 (lawD y g0 d u sc m xs hK0 hd hu hsc h63 hi F ρ0 tk R hk).1.1 := by
  run_tac openLast
  intro j k g1 e v it acc fr pa ws nw ps j2 hK hd' hu' fw hQ hne h4
  clear hd hu
  refine pun_of fun F ρr tkr R hk K => ?_
  have hk : F.k₀ = 4 := hk
  run_tac normCd
  cases hQ with
  | nil => exact absurd rfl hne
  | @cons w0 ws p0 qs hp0 hQ =>
  have hx0 : (w0 :: ws)[0]? = some w0 := rfl
  refine via_P (T := Nat → Gm → Nat → Value → Value → Value → List Value → Nat → Prop) ?P1 (fun P => ∀ x g i vw vt va vs n done rest vs2, Le g1 g → (w0 :: ws).drop i = vs2 → done ++ rest = p0 :: qs → ParsAre g vs2 rest → MinesAre g vs (mineP j done) → (∃ a b, vw = .int a b) → (∃ a, vt = .ref a) → (∃ a, va = .ref a) → P x g i vw vt va vs n) ?A1 ?B1
  case A1 =>
    intro HH
    have hp0' := hp0
    cases hp0' with
    | @mk a0 ta ea j0 k0 tt ee m1 m2 m3 m4 =>
    by_cases q : j0 = j
    · have q' : j = j0 := q.symm
      subst q'
      run_tac walkP [``next_item, ``next_end, ``list_append_ok] [1]
      run_tac mkOut `P1 [0, 1, 2, 3] [.idx 0, .ent 2 0, .ent 2 1, .ent 2 2, .lst 1]
      exact HH _ _ _ _ _ _ _ _ [(j, tt, ee)] qs ws hle rfl rfl (hQ.mono hle) (by
        have : mineP j [(j, tt, ee)] = [(j, tt, ee)] := by simp [mineP]
        rw [this]; exact .cons (.mk (by assumption) (m2.mono hle) (m3.mono hle) m4) .nil) ⟨_, _, rfl⟩ ⟨_, rfl⟩ ⟨_, rfl⟩
    · have ne1 : ¬ ((j0 : Int) = (j : Int)) := by omega
      run_tac walkP [``next_item, ``next_end, ``list_append_ok] [1]
      run_tac mkLoop [0, 1, 2, 3] [.idx 0, .ent 2 0, .ent 2 1, .ent 2 2, .lst 1]
      exact HH _ _ _ _ _ _ _ _ [(j0, tt, ee)] qs ws hle rfl rfl (hQ.mono hle) (by
        have : mineP j [(j0, tt, ee)] = [] := by simp [mineP, q]
        rw [this]; exact .nil) ⟨_, _, rfl⟩ ⟨_, rfl⟩ ⟨_, rfl⟩
  case B1 =>
    intro x g i vw vt va vs n done rest vs2 le0 hdr hdn hPs hMs hw ht hv
    induction rest generalizing g i vw vt va vs n done vs2 with
    | nil =>
      intro ρ1 tk1
      cases hPs
      rw [List.append_nil] at hdn
      subst hdn
      obtain ⟨_, _, rfl⟩ := hw
      obtain ⟨_, rfl⟩ := ht
      obtain ⟨_, rfl⟩ := hv
      have hK := hK.mono le0
      have fw1 := le0 _ _ fw
      have hx := drop_end hdr
      run_tac walkP [``next_item, ``next_end]
      all_goals exact K _ _ _ _ _ [_, _, _, _] (le0.trans hle) ⟨rfl, rfl, rfl, rfl, trivial⟩ ⟨rfl, _, _, _, _, _, _, _, _, _, _, _, _, _, _, rfl, hMs.mono hle⟩
    | cons p rest ih =>
      intro ρ1 tk1
      cases hPs with
      | @cons v2 vs2 _ _ hp2 hPs =>
      have zz_ := drop_at hdr
      obtain ⟨hx, hdr'⟩ := zz_
      have hK := hK.mono le0
      have fw1 := le0 _ _ fw
      have hln : vs.length ≤ 100000 := by
        have z : ∀ {g : Gm} {vs : List Value} {ms : List Par}, MinesAre g vs ms → vs.length = ms.length := fun h => by
          induction h with
          | nil => rfl
          | cons _ _ ih => simp [ih]
        have := z hMs
        have : (mineP j done).length ≤ done.length := List.length_filter_le ..
        have := congrArg List.length hdn
        simp only [List.length_append, List.length_cons] at *
        omega
      have app : ∀ (p : Par), mineP j (done ++ [p]) = mineP j done ++ mineP j [p] := fun p => by simp [mineP]
      have hp2' := hp2
      cases hp2' with
      | @mk a0 ta ea j0 k0 tt ee m1 m2 m3 m4 =>
      by_cases q : j0 = j
      · have q' : j = j0 := q.symm
        subst q'
        run_tac walkP [``next_item, ``next_end, ``list_append_ok] [1]
        run_tac mkLoop [0, 1, 2, 3] [.idx 0, .ent 2 0, .ent 2 1, .ent 2 2, .lst 1]
        exact ih _ _ _ _ _ _ _ (done ++ [(j, tt, ee)]) vs2 (le0.trans hle) hdr' (by rw [← hdn]; simp) (hPs.mono hle) (by
          have : mineP j [(j, tt, ee)] = [(j, tt, ee)] := by simp [mineP]
          rw [app, this]; exact (hMs.mono hle).snoc (.mk (by assumption) (m2.mono hle) (m3.mono hle) m4)) ⟨_, _, rfl⟩ ⟨_, rfl⟩ ⟨_, rfl⟩
      · have ne1 : ¬ ((j0 : Int) = (j : Int)) := by omega
        run_tac walkP [``next_item, ``next_end, ``list_append_ok] [1]
        run_tac mkLoop [0, 1, 2, 3] [.idx 0, .ent 2 0, .ent 2 1, .ent 2 2, .lst 1]
        exact ih _ _ _ _ _ _ _ (done ++ [(j0, tt, ee)]) vs2 (le0.trans hle) hdr' (by rw [← hdn]; simp) (hPs.mono hle) (by
          have : mineP j [(j0, tt, ee)] = [] := by simp [mineP, q]
          rw [app, this, List.append_nil]; exact hMs.mono hle) ⟨_, _, rfl⟩ ⟨_, rfl⟩ ⟨_, rfl⟩
end Mine

/-! W6 -/
namespace Mine
open PySem PySem.W PySem.W.X

theorem PT.filU_ty : ∀ {t a : PT} {up : Bool}, t.tr → t.filU a up → a.ty ∧ a.dep ≤ t.dep + 1
  | .leaf c, a, up, ht, hf => by
    have hf' : (if c < 7 then ∃ k, k < 4 ∧ a = .leaf k else if up = true then a.simp else ∃ k, k < 4 ∧ a = .leaf k) := by cases a <;> exact hf
    split at hf'
    · obtain ⟨k, k4, rfl⟩ := hf'; exact ⟨.inl k4, by simp [PT.dep]⟩
    · split at hf'
      · exact ⟨PT.simp_ty hf', by have := PT.simp_dep hf'; simp only [PT.dep]; omega⟩
      · obtain ⟨k, k4, rfl⟩ := hf'; exact ⟨.inl k4, by simp [PT.dep]⟩
  | .un c t, .leaf _, up, ht, hf => hf.elim
  | .un c t, .two _ _, up, ht, hf => hf.elim
  | .un c t, .un k a, up, ht, hf => by
    obtain ⟨rfl, hf⟩ := hf
    have ih := PT.filU_ty ht.2 hf
    exact ⟨⟨ht.1, ih.1⟩, by have := ih.2; simp only [PT.dep]; omega⟩
  | .two t s, .leaf _, up, ht, hf => hf.elim
  | .two t s, .un _ _, up, ht, hf => hf.elim
  | .two t s, .two a b, up, ht, hf => by
    have i1 := PT.filU_ty ht.1 hf.1
    have i2 := PT.filU_ty ht.2 hf.2
    exact ⟨⟨i1.1, i2.1⟩, by have := i1.2; have := i2.2; simp only [PT.dep]; omega⟩
theorem PT.put_ty : ∀ {t u : PT}, t.tr → u.ty → (t.put u).ty ∧ (t.put u).dep ≤ t.dep + u.dep
  | .leaf c, u, ht, hu => by
    unfold PT.put
    split
    · rename_i h
      refine ⟨?_, by simp [PT.dep]⟩
      simp only [PT.tr] at ht
      exact .inl (by omega)
    · exact ⟨hu, by simp [PT.dep]⟩
  | .un c t, u, ht, hu => by
    have ih := PT.put_ty ht.2 hu
    exact ⟨⟨ht.1, ih.1⟩, by have := ih.2; simp only [PT.put, PT.dep]; omega⟩
  | .two t s, u, ht, hu => by
    have i1 := PT.put_ty ht.1 hu
    have i2 := PT.put_ty ht.2 hu
    exact ⟨⟨i1.1, i2.1⟩, by have := i1.2; have := i2.2; simp only [PT.put, PT.dep]; omega⟩
theorem PT.uni_ty {t : PT} (h : t.uni) : t.ty ∧ t.dep ≤ 1 := by
  rcases h with rfl | h
  · exact ⟨.inr rfl, by simp [PT.dep]⟩
  · exact ⟨PT.simp_ty h, PT.simp_dep h⟩
abbrev Cd5 := Nat → Nat → Nat → Nat → Nat → Code
def InnerSpec (y : Wd) (ρ0 : Nat → Addr) (c : Cd5) : Prop := ∀ (W : Wo) (g : Gm) (d u ofr it acc fr uc ml ab ua : Nat) (tu : PT) (vs : List Value) (nv : Nat) (ms : List Par), KIn (tops y) g → ParOk W → AbIs g W ab → g (ρ0 (nat_lit 1)) = some (celO (.ref ab)) → d + 60 < recursionLimit → u + 400 < cLine →
  g ml = some (lstO vs nv) → MinesAre g vs ms → ms ≠ [] → ms.length ≤ 4 → PTIs g ua tu → tu.uni →
  PuN (cx y) g d u (c ofr it acc fr uc) [(it, liO ml 0), (acc, lstO [] 0), (fr, dct [] 0), (uc, celO (.ref ua))]
    (fun g' os' r => r = .ok .next ∧ ∃ p1 n h1 h2 q1 q2 x1 x2 m, os' = [p1, lstO (bvs (ms.map (fitsP W tu))) n, dct [key h1 q1 "tree" (.ref x1), key h2 q2 "arg" (.ref x2)] m, celO (.ref ua)])
theorem allS_ok (y : Wd) (g0 : Gm) (d u : Nat) (l : Addr) (bs : List Bool) (m : Nat) (hK0 : KIn (tops y) g0) (hd : d + 12 < recursionLimit) (hu : u + 90 < cLine) (hl : g0 l = some (lstO (bvs bs) m)) :
    Pu (cx y) g0 d u (.call (.builtin "all") ⟨[.ref l], []⟩) (fun g' r => ∃ bl, r = .ok (.ret (.bool bl)) ∧ Says bl (bs.all id)) := by
  refine (all_ok y g0 d u l bs m hK0 hd hu hl).mono ?_
  rintro g' r _ ⟨bl, h, e⟩
  exact ⟨bl, h, e⟩
theorem alln_ok (y : Wd) (g0 : Gm) (d u : Nat) (l : Addr) (m : Nat) (hK0 : KIn (tops y) g0) (hd : d + 12 < recursionLimit) (hu : u + 90 < cLine) (hl : g0 l = some (lstO [] m)) :
    Pu (cx y) g0 d u (.call (.builtin "all") ⟨[.ref l], []⟩) (fun g' r => r = .ok (.ret (.bool true))) := by
  refine (all_ok y g0 d u l [] m hK0 hd hu hl).mono ?_
  rintro g' r _ ⟨bl, h, e⟩
  rw [h, e]; rfl
theorem all_yes {α : Type} {f : α → Bool} {ms : List α} {bl : Bool} (s : Says bl ((ms.map f).all id)) (w : bl = true) : ms.all f = true := by
  unfold Says at s
  rw [← w, s]
  simp [List.all_map, Function.comp_def]
theorem all_no {α : Type} {f : α → Bool} {ms : List α} {bl : Bool} (s : Says bl ((ms.map f).all id)) (w : bl = false) : ms.all f = false := by
  unfold Says at s
  rw [← w, s]
  simp [List.all_map, Function.comp_def]
theorem PTsAre.snoc {g : Gm} {vs : List Value} {ts : List PT} {a : Addr} {t : PT} (h : PTsAre g vs ts) (x : PTIs g a t) : PTsAre g (vs ++ [.ref a]) (ts ++ [t]) := by
  induction h with
  | nil => exact .cons x .nil
  | cons a _ ih => exact .cons a ih
theorem PTsAre.len {g : Gm} {vs : List Value} {ts : List PT} (h : PTsAre g vs ts) : vs.length = ts.length := by
  induction h with
  | nil => rfl
  | cons _ _ ih => simp [ih]
noncomputable def lawR (y : Wd) (g0 : Gm) (d u sc m : Nat) (xs : List Value) (hK0 : KIn (tops y) g0) (hd : d + 300 < recursionLimit) (hu : u + 2500 < cLine) (hsc : g0 sc = some (lstO xs m)) (h63 : xs.length ≤ 63) (hi : AllI xs) (F : Frm) (ρ0 : Nat → Addr) (tk : Nat) (R : Result → Shared → Prop) (hk : F.k₀ = 0) : { cI : Cd5 // InnerSpec y ρ0 cI → RightSpec y ρ0 (lawD y g0 d u sc m xs hK0 hd hu hsc h63 hi F ρ0 tk R hk).1.2.1 } := by
  refine ⟨?cI, ?A⟩
  case A =>
    intro HI
    unfold InnerSpec at HI
    run_tac openLast
    intro W g1 e v it acc fr uc ul ml ab us vs nu nv ms hK hPo hAb fab hd' hu' fu hU fml hMi h4
    refine pun_of fun F ρr tkr R hk K => ?_
    have hk : F.k₀ = 5 := hk
    run_tac normCd
    generalize hU0 : univ = un at hU
    cases hU with
    | nil => cases hU0
    | @cons a0 us t0 ts hp0 hU =>
    have hx0 : (Value.ref a0 :: us)[0]? = some (Value.ref a0) := rfl
    cases ms with
    | nil =>
      cases hMi
      have hall : univ.filter (fun u => ([] : List Par).all (fitsP W u)) = univ := by simp
      refine via_P (T := Gm → Nat → Value → List Value → Nat → Prop) ?P2 (fun P => ∀ g i vu rs n done rest vs2, Le g1 g → (Value.ref a0 :: us).drop i = vs2 → done ++ rest = univ → PTsAre g vs2 rest → PTsAre g rs done → (∃ a, vu = .ref a) → P g i vu rs n) ?A2 ?B2
      case A2 =>
        intro HH
        run_tac walkP [``next_item, ``next_end, ``list_append_ok, ``alln_ok]
        run_tac mkOut `P2 [0, 1, 2, 3, 4] [.idx 0, .cel 3, .lst 1]
        exact HH _ _ _ _ _ [t0] ts us hle rfl hU0.symm (hU.mono hle) (.cons (hp0.mono hle) .nil) ⟨_, rfl⟩
      case B2 =>
        intro g i vu rs n done rest vs2 le0 hdr hdn hPs hRs hvu
        induction rest generalizing g i vu rs n done vs2 with
        | nil =>
          intro ρ1 tk1
          cases hPs
          rw [List.append_nil] at hdn
          obtain ⟨_, rfl⟩ := hvu
          have hK := hK.mono le0
          have fu1 := le0 _ _ fu
          have hx := drop_end hdr
          run_tac walkP [``next_item, ``next_end]
          all_goals exact K _ _ _ _ _ [_, _, _, _, _] (le0.trans hle) ⟨rfl, rfl, rfl, rfl, rfl, trivial⟩ ⟨rfl, _, _, _, _, rfl, by rw [hall, ← hdn]; exact hRs.mono hle⟩
        | cons t2 rest ih =>
          intro ρ1 tk1
          cases hPs with
          | @cons a2 vs2 _ _ hp2 hPs =>
          have zz_ := drop_at hdr
          obtain ⟨hx, hdr'⟩ := zz_
          obtain ⟨_, rfl⟩ := hvu
          have hK := hK.mono le0
          have fu0 := le0 _ _ fu
          have fml0 := le0 _ _ fml
          have hln : rs.length ≤ 100000 := by
            have := hRs.len
            have := congrArg List.length hdn
            simp only [List.length_append, List.length_cons, univ, List.length_nil] at *
            omega
          run_tac walkP [``next_item, ``next_end, ``list_append_ok, ``alln_ok]
          run_tac mkLoop [0, 1, 2, 3, 4] [.idx 0, .cel 3, .lst 1]
          exact ih _ _ _ _ _ (done ++ [t2]) vs2 (le0.trans hle) hdr' (by rw [← hdn]; simp) (hPs.mono hle) ((hRs.mono hle).snoc (hp2.mono hle)) ⟨_, rfl⟩
    | cons m0 ms =>
      have t0u : t0.uni := univ_uni t0 (by rw [hU0]; simp)
      refine via_P (T := Gm → Nat → Value → List Value → Nat → Prop) ?P1 (fun P => ∀ g i vu rs n done rest vs2, Le g1 g → (Value.ref a0 :: us).drop i = vs2 → done ++ rest = univ → PTsAre g vs2 rest → PTsAre g rs (done.filter fun u => (m0 :: ms).all (fitsP W u)) → (∃ a, vu = .ref a) → P g i vu rs n) ?A1 ?B1
      case A1 =>
        intro HH
        run_tac walkP [``next_item, ``next_end]
        run_tac mkCodeT `cI [5, 6, 7, 3]
        have leA := hle
        refine cd_useN [5, 6, 7, 3] ?e1 (by decide) rfl (HI W _ _ _ _ _ _ _ _ ml ab a0 t0 vs nv (m0 :: ms) hK hPo (hAb.mono (leA)) ((leA) _ _ fab) (by show e + 60 < _; omega) (by show v + 400 < _; omega) ((leA) _ _ fml) (hMi.mono (leA)) (by simp) h4 (hp0.mono leA) t0u) ?x1
        case e1 => exact (takes.spec (T := _) (ks := [5, 6, 7, 3]) (by exact ⟨by kernel_rfl, by kernel_rfl, by kernel_rfl, by kernel_rfl, trivial⟩)).2
        rintro g2 ρ3 tk3 _ _ le2 ⟨rfl, p1, nI, _, _, _, _, _, _, _, rfl⟩
        run_tac onward
        have hKb := hK.mono le2
        have fu1 := le2 _ _ (leA _ _ fu)
        have fml1 := le2 _ _ (leA _ _ fml)
        run_tac walkP [``next_item, ``next_end, ``list_append_ok, ``allS_ok]
  
        · have hok : (m0 :: ms).all (fitsP W t0) = true := all_yes (by assumption) (by assumption)
          run_tac mkOut `P1 [0, 1, 2, 3, 4] [.idx 0, .cel 3, .lst 1]
          exact HH _ _ _ _ _ [t0] ts us (leA.trans (le2.trans hle)) rfl hU0.symm (hU.mono (leA.trans (le2.trans hle))) (by
            rw [List.filter_cons_of_pos (by exact hok)]; exact .cons (hp0.mono (leA.trans (le2.trans hle))) .nil) ⟨_, rfl⟩
        · have hok : (m0 :: ms).all (fitsP W t0) = false := all_no (by assumption) (by assumption)
          run_tac mkLoop [0, 1, 2, 3, 4] [.idx 0, .cel 3, .lst 1]
          exact HH _ _ _ _ _ [t0] ts us (leA.trans (le2.trans hle)) rfl hU0.symm (hU.mono (leA.trans (le2.trans hle))) (by
            rw [List.filter_cons_of_neg (by rw [hok]; exact Bool.false_ne_true)]; exact .nil) ⟨_, rfl⟩
      case B1 =>
        intro g i vu rs n done rest vs2 le0 hdr hdn hPs hRs hvu
        induction rest generalizing g i vu rs n done vs2 with
        | nil =>
          intro ρ1 tk1
          cases hPs
          rw [List.append_nil] at hdn
          obtain ⟨_, rfl⟩ := hvu
          have hK := hK.mono le0
          have fu1 := le0 _ _ fu
          have hx := drop_end hdr
          run_tac walkP [``next_item, ``next_end]
          all_goals exact K _ _ _ _ _ [_, _, _, _, _] (le0.trans hle) ⟨rfl, rfl, rfl, rfl, rfl, trivial⟩ ⟨rfl, _, _, _, _, rfl, by rw [← hdn]; exact hRs.mono hle⟩
        | cons t2 rest ih =>
          intro ρ1 tk1
          cases hPs with
          | @cons a2 vs2 _ _ hp2 hPs =>
          have zz_ := drop_at hdr
          obtain ⟨hx, hdr'⟩ := zz_
          obtain ⟨_, rfl⟩ := hvu
          have hK := hK.mono le0
          have fu0 := le0 _ _ fu
          have fml0 := le0 _ _ fml
          have t2u : t2.uni := univ_uni t2 (by rw [← hdn]; simp)
          have hln : rs.length ≤ 100000 := by
            have := hRs.len
            have : (done.filter fun u => (m0 :: ms).all (fitsP W u)).length ≤ done.length := List.length_filter_le ..
            have := congrArg List.length hdn
            simp only [List.length_append, List.length_cons, univ, List.length_nil] at *
            omega
          have app : ∀ t : PT, (done ++ [t]).filter (fun u => (m0 :: ms).all (fitsP W u)) = done.filter (fun u => (m0 :: ms).all (fitsP W u)) ++ [t].filter (fun u => (m0 :: ms).all (fitsP W u)) := fun t => by rw [List.filter_append]
          run_tac walkP [``next_item, ``next_end]
          have leA := hle
          refine cd_useN [5, 6, 7, 3] ?e2 (by decide) rfl (HI W _ _ _ _ _ _ _ _ ml ab a2 t2 vs nv (m0 :: ms) hK hPo (hAb.mono (le0.trans leA)) ((le0.trans leA) _ _ fab) (by show e + 60 < _; omega) (by show v + 400 < _; omega) ((le0.trans leA) _ _ fml) (hMi.mono (le0.trans leA)) (by simp) h4 (hp2.mono leA) t2u) ?x2
          case e2 => exact (takes.spec (T := _) (ks := [5, 6, 7, 3]) (by exact ⟨by kernel_rfl, by kernel_rfl, by kernel_rfl, by kernel_rfl, trivial⟩)).2
          rintro g2 ρ3 tk3 _ _ le2 ⟨rfl, p1, nI, _, _, _, _, _, _, _, rfl⟩
          run_tac onward
          have hKb := hK.mono le2
          have fu1 := le2 _ _ (leA _ _ fu0)
          have fml1 := le2 _ _ (leA _ _ fml0)
          run_tac walkP [``next_item, ``next_end, ``list_append_ok, ``allS_ok]
    
          · have hok : (m0 :: ms).all (fitsP W t2) = true := all_yes (by assumption) (by assumption)
            run_tac mkLoop [0, 1, 2, 3, 4] [.idx 0, .cel 3, .lst 1]
            exact ih _ _ _ _ _ (done ++ [t2]) vs2 (le0.trans (leA.trans (le2.trans hle))) hdr' (by rw [← hdn]; simp) (hPs.mono (leA.trans (le2.trans hle))) (by
              rw [app, List.filter_cons_of_pos (by exact hok)]; exact (hRs.mono (leA.trans (le2.trans hle))).snoc (hp2.mono (leA.trans (le2.trans hle)))) ⟨_, rfl⟩
          · have hok : (m0 :: ms).all (fitsP W t2) = false := all_no (by assumption) (by assumption)
            run_tac mkLoop [0, 1, 2, 3, 4] [.idx 0, .cel 3, .lst 1]
            exact ih _ _ _ _ _ (done ++ [t2]) vs2 (le0.trans (leA.trans (le2.trans hle))) hdr' (by rw [← hdn]; simp) (hPs.mono (leA.trans (le2.trans hle))) (by
              rw [app, List.filter_cons_of_neg (by rw [hok]; exact Bool.false_ne_true)]; simpa using hRs.mono (leA.trans (le2.trans hle))) ⟨_, rfl⟩
end Mine

/-! W7 -/
namespace Mine
open PySem PySem.W PySem.W.X

theorem says_eq {bl v : Bool} (s : Says bl v) : bl = v := s
theorem inner_ok (y : Wd) (g0 : Gm) (d u sc m : Nat) (xs : List Value) (hK0 : KIn (tops y) g0) (hd : d + 300 < recursionLimit) (hu : u + 2500 < cLine) (hsc : g0 sc = some (lstO xs m)) (h63 : xs.length ≤ 63) (hi : AllI xs) (F : Frm) (ρ0 : Nat → Addr) (tk : Nat) (R : Result → Shared → Prop) (hk : F.k₀ = 0) : InnerSpec y ρ0 (lawR y g0 d u sc m xs hK0 hd hu hsc h63 hi F ρ0 tk R hk).1 := by
  run_tac openLast
  intro W g1 e v ofr it acc fr uc ml ab ua tu mvs nv ms hK hPo hAb fab hd' hu' fml hMi hne h4 hpu hun
  have pu := put_ok y 2
  unfold putSpec at pu
  have be := below_ok y W 3
  unfold belowSpec at be
  have n23 : (2 : Nat) ≤ 3 := by omega
  refine pun_of fun F ρr tkr R hk K => ?_
  have hk : F.k₀ = 4 := hk
  run_tac normCd
  cases hMi with
  | nil => exact absurd rfl hne
  | @cons w0 mvs p0 qs hp0 hMi =>
  have hx0 : (w0 :: mvs)[0]? = some w0 := rfl
  refine via_P (T := Nat → Gm → Nat → Value → Value → List Value → Nat → Prop) ?P1 (fun P => ∀ x g i vt va rs n done rest vs2, Le g1 g → (w0 :: mvs).drop i = vs2 → done ++ rest = p0 :: qs → MinesAre g vs2 rest → rs = bvs (done.map (fitsP W tu)) → (∃ a, vt = .ref a) → (∃ a, va = .ref a) → P x g i vt va rs n) ?A1 ?B1
  case A1 =>
    intro HH
    have hp0' := hp0
    cases hp0' with
    | @mk a0 ta ea j0 tt ee m1 m2 m3 m4 =>
      have mtr : tt.tr := m4.tr
      have mdp : tt.dep ≤ 2 := m4.2.2.1
      have ety : ee.ty := (PT.filU_ty mtr m4.2.2.2).1
      have edp0 : ee.dep ≤ tt.dep + 1 := (PT.filU_ty mtr m4.2.2.2).2
      have edp : ee.dep ≤ 3 := by omega
      have pty : (tt.put tu).ty := (PT.put_ty mtr (PT.uni_ty hun).1).1
      have pdp : (tt.put tu).dep ≤ 3 := by have := (PT.put_ty mtr (PT.uni_ty hun).1).2; have := (PT.uni_ty hun).2; omega
      run_tac walkP [``next_item, ``next_end, ``list_append_ok]
      have hsays := ‹Says _ (ee.sub W (tt.put tu))›
      run_tac mkOut `P1 [0, 1, 2, 3] [.idx 0, .ent 2 0, .ent 2 1, .lst 1]
      exact HH _ _ _ _ _ _ _ [(j0, tt, ee)] qs mvs hle rfl rfl (hMi.mono hle) (by rw [says_eq hsays]; rfl) ⟨_, rfl⟩ ⟨_, rfl⟩
  case B1 =>
    intro x g i vt va rs n done rest vs2 le0 hdr hdn hMs hrs ht hv
    induction rest generalizing g i vt va rs n done vs2 with
    | nil =>
      intro ρ1 tk1
      cases hMs
      rw [List.append_nil] at hdn
      subst hdn
      obtain ⟨_, rfl⟩ := ht
      obtain ⟨_, rfl⟩ := hv
      have hK := hK.mono le0
      have fml0 := le0 _ _ fml
      have hx := drop_end hdr
      run_tac walkP [``next_item, ``next_end]
      all_goals exact K _ _ _ _ _ [_, _, _, _] (le0.trans hle) ⟨rfl, rfl, rfl, rfl, trivial⟩ ⟨rfl, _, _, _, _, _, _, _, _, _, by rw [hrs]; rfl⟩
    | cons p rest ih =>
      intro ρ1 tk1
      cases hMs with
      | @cons v2 vs2 _ _ hp2 hMs =>
      have zz_ := drop_at hdr
      obtain ⟨hx, hdr'⟩ := zz_
      obtain ⟨_, rfl⟩ := ht
      obtain ⟨_, rfl⟩ := hv
      have hK := hK.mono le0
      have fml0 := le0 _ _ fml
      have fab0 := le0 _ _ fab
      have hAb0 := hAb.mono le0
      have hpu0 := hpu.mono le0
      have hln : rs.length ≤ 100000 := by
        have := congrArg List.length hdn
        rw [hrs, bvs, List.length_map, List.length_map]
        simp only [List.length_append, List.length_cons] at *
        omega
      cases hp2 with
      | @mk a0 ta ea j0 tt ee m1 m2 m3 m4 =>
      have mtr : tt.tr := m4.tr
      have mdp : tt.dep ≤ 2 := m4.2.2.1
      have ety : ee.ty := (PT.filU_ty mtr m4.2.2.2).1
      have edp0 : ee.dep ≤ tt.dep + 1 := (PT.filU_ty mtr m4.2.2.2).2
      have edp : ee.dep ≤ 3 := by omega
      have pty : (tt.put tu).ty := (PT.put_ty mtr (PT.uni_ty hun).1).1
      have pdp : (tt.put tu).dep ≤ 3 := by have := (PT.put_ty mtr (PT.uni_ty hun).1).2; have := (PT.uni_ty hun).2; omega
      run_tac walkP [``next_item, ``next_end, ``list_append_ok]
      have hsays := ‹Says _ (ee.sub W (tt.put tu))›
      run_tac mkLoop [0, 1, 2, 3] [.idx 0, .ent 2 0, .ent 2 1, .lst 1]
      exact ih _ _ _ _ _ _ (done ++ [(j0, tt, ee)]) vs2 (le0.trans hle) hdr' (by rw [← hdn]; simp) (hMs.mono hle) (by rw [says_eq hsays, hrs, List.map_append, ← bvs_append]; rfl) ⟨_, rfl⟩ ⟨_, rfl⟩
end Mine

/-! W8 -/
namespace Mine
open PySem PySem.W PySem.W.X

theorem any_yes (X : Cx) (g : Gm) (d u : Nat) (a : Addr) (b : Bool) (bs : List Bool) (m : Nat) (ha : g a = some (lstO (.bool b :: bvs bs) m)) (h : (b :: bs).any id = true) :
    Pu X g d u (.call (.builtin "list.__contains__") ⟨[.ref a, .bool true], []⟩) (fun g' r => r = .ok (.ret (.bool true))) := by
  have := list_true_in_ok X g d u a (b :: bs) m ha
  rw [h] at this; exact this
theorem any_no (X : Cx) (g : Gm) (d u : Nat) (a : Addr) (b : Bool) (bs : List Bool) (m : Nat) (ha : g a = some (lstO (.bool b :: bvs bs) m)) (h : (b :: bs).any id = false) :
    Pu X g d u (.call (.builtin "list.__contains__") ⟨[.ref a, .bool true], []⟩) (fun g' r => r = .ok (.ret (.bool false))) := by
  have := list_true_in_ok X g d u a (b :: bs) m ha
  rw [h] at this; exact this
theorem ways_lens : ∀ (ps : List Par), (∀ p ∈ ps, parOk p) → (bvs (ps.flatMap fun p => p.2.1.ways true)).length ≤ 4 * ps.length
  | [], _ => by simp [bvs]
  | p :: ps, h => by
    have ih := ways_lens ps fun q hq => h q (List.mem_cons_of_mem _ hq)
    have hp := h p (List.mem_cons_self ..)
    have a := PT.ways_len p.2.1 true
    have b := PT.wsz_dep p.2.1 2 hp.2.2.1
    rw [bvs, List.length_map] at *
    simp only [List.flatMap_cons, List.length_append, List.length_cons]
    omega
def BestSpec (y : Wd) (ρ0 : Nat → Addr) (dn : Bool) (c : Cd4) : Prop := ∀ (W : Wo) (g : Gm) (d u it acc fr uc rl ab : Nat) (rs : List Value) (nr : Nat) (ts : List PT), KIn (tops y) g → ParOk W → AbIs g W ab → g (ρ0 (nat_lit 1)) = some (celO (.ref ab)) → d + 80 < recursionLimit → u + 500 < cLine →
  g rl = some (lstO rs nr) → PTsAre g rs ts → ts ≠ [] → ts.length ≤ 9 → (∀ t ∈ ts, t.uni) →
  PuN (cx y) g d u (c it acc fr uc) [(it, liO rl 0), (acc, lstO [] 0), (fr, dct [] 0), (uc, cel0), (ρ0 (nat_lit 6), celO (.ref rl))]
    (fun g' os' r => r = .ok .next ∧ ∃ p1 vs' n x, os' = [p1, lstO vs' n, dct [] 0, celO (.ref x), celO (.ref rl)] ∧ PTsAre g' vs' (if dn = true then downs W ts else ups W ts))
/-- what the law holds to be the best -/
def BestOf (g : Gm) (W : Wo) (j : Nat) (ps : List Par) (v : Value) : Prop := (v = .none ∧ rightP W j ps = []) ∨ (∃ a t, v = .ref a ∧ PTIs g a t ∧ rightP W j ps ≠ [] ∧ sol W (sel j (allC ps)) = some t)
abbrev T4 := (Nat → Nat) → Nat → Nat → Value → Value → Value → Value → Nat → Nat → Nat → Nat → Nat → Nat → Nat → Nat → Nat → Nat → Value → Value → (Nat → Nat) → Nat → (Nat → Nat) → (Nat → Addr) → (Nat → Addr) → Nat → Nat → Value → Value → Addr → Gm → List Value → Nat → Prop
def C4 (g0 : Gm) (ρ0 : Nat → Addr) (P : T4) : Prop := ∀ ρr k1 k2 vk vr vi vf pa t1 t2 t3 t4 t5 t6 t7 t8 t9 v1 v2 ρ1 tk1 ρ2 ρ3 ρ4 tk4 tkw vt va wl g bl nb W ps, Base g0 g ρ0 W pa (ρ1 (nat_lit 40)) ps → (∃ v, bl = [v] ∧ BestOf g W 0 ps v) →
  P ρr k1 k2 vk vr vi vf pa t1 t2 t3 t4 t5 t6 t7 t8 t9 v1 v2 ρ1 tk1 ρ2 ρ3 ρ4 tk4 tkw vt va wl g bl nb
noncomputable def lawE (y : Wd) (g0 : Gm) (d u sc m : Nat) (xs : List Value) (hK0 : KIn (tops y) g0) (hd : d + 300 < recursionLimit) (hu : u + 2500 < cLine) (hsc : g0 sc = some (lstO xs m)) (h63 : xs.length ≤ 63) (hi : AllI xs) (F : Frm) (ρ0 : Nat → Addr) (tk : Nat) (R : Result → Shared → Prop) (hk : F.k₀ = 0) :
    { P : Cd4 × Cd4 × T4 // BestSpec y ρ0 true P.1 → BestSpec y ρ0 false P.2.1 → C4 g0 ρ0 P.2.2 → C3 g0 ρ0 (lawD y g0 d u sc m xs hK0 hd hu hsc h63 hi F ρ0 tk R hk).1.2.2.2 } := by
  refine ⟨(?cD, ?cU, ?P4), ?A⟩
  case A =>
    intro HD HU HH
    dsimp only at HD HU HH
    unfold C4 at HH
    unfold BestSpec at HD HU
    run_tac openLast
    intro ρr k1 k2 vk vr vi vf pa t1 t2 t3 t4 t5 t6 t7 t8 t9 v1 v2 ρ1 tk1 ρ2 ρ3 ρ4 tk4 vr' nr' tkw g1 i vt vw va W ps hBase hne0 hL hR
    obtain ⟨⟨mvs, nv, done, vs2, rest, wl, nw, fml, hdr, hdn, hMi, rfl, fwl⟩⟩ := hL
    have wo := ways_ok y 2
    unfold waysSpec at wo
    have n23 : (2 : Nat) ≤ 3 := by omega
    induction rest generalizing g1 i vt va vs2 done wl nw with
    | cons p rest ih =>
      intro ρ5 tk5
      have hK := hK0.mono hBase.le
      cases hMi with
      | @cons w0 vs2 _ _ hm0 hMi =>
      have zz_ := drop_at hdr
      obtain ⟨hx0, hdr'⟩ := zz_
      have hok : ∀ q ∈ done, parOk q := fun q hq => by
        have zz_ := hBase.pars
        obtain ⟨ws, _, _, hQ⟩ := zz_
        exact hQ.ok q (List.mem_filter.mp (hdn ▸ List.mem_append_left _ hq : q ∈ mineP 0 ps)).1
      have hl0 : (bvs (done.flatMap fun p : Par => p.2.1.ways true)).length ≤ 100 := by
        have := ways_lens done hok
        have a := congrArg List.length hdn
        have b : (mineP 0 ps).length ≤ ps.length := List.length_filter_le ..
        have c := hBase.count
        simp only [List.length_append, List.length_cons] at a
        omega
      cases hm0 with
      | @mk a0 ta ea j0 tt ee m1 m2 m3 m4 =>
      have mtr : tt.tr := m4.tr
      have mdp : tt.dep ≤ 2 := m4.2.2.1
      have ml1 : (bvs (tt.ways true)).length ≤ 100 := wlen mdp
      run_tac walkP [``next_item, ``next_end, ``list_add_ok]
      run_tac mkLoop [0, 1, 2, 3, 4, 5, 6, 7, 8, 9] [.idx 9, .ent 0 8, .ent 0 11, .ent 0 12]
      exact ih _ _ _ _ (hBase.mono hle) (hR.mono hle) (done ++ [(j0, tt, ee)]) vs2 _ _ (hle _ _ fml) hdr' (by rw [← hdn]; simp) (hMi.mono hle) (by
        have : bvs ((done ++ [(j0, tt, ee)]).flatMap fun p : Par => p.2.1.ways true) = bvs (done.flatMap fun p : Par => p.2.1.ways true) ++ bvs (tt.ways true) := by simp [bvs]
        rw [this]; assumption)
    | nil =>
      intro ρ5 tk5
      cases hMi
      rw [List.append_nil] at hdn
      subst hdn
      have hx := drop_end hdr
      have hK := hK0.mono hBase.le
      have fwl : g1 wl = some (lstO (bvs (wysP 0 ps)) nw) := fwl
      have zz_ := hBase.ab
      obtain ⟨aa, fab, hAb⟩ := zz_
      have hPok := hBase.wo.parOk
      have hall : ∀ q ∈ ps, parOk q := by obtain ⟨ws, _, _, hQ⟩ := hBase.pars; exact hQ.ok
      cases hr : rightP W 0 ps with
      | nil =>
        rw [hr] at hR
        cases hR
        run_tac walkP [``next_item, ``next_end]
        run_tac mkOut `P4 [0, 1, 2, 3, 4, 5, 6, 7] [.lst 5]
        exact HH _ _ _ _ _ _ _ _ _ _ _ _ _ _ _ _ _ _ _ _ _ _ _ _ _ _ _ _ _ _ _ _ W ps (hBase.mono hle) ⟨_, rfl, .inl ⟨rfl, hr⟩⟩
      | cons r0 rs =>
        have hrne : rightP W 0 ps ≠ [] := by rw [hr]; simp
        have zz_ := right_best hPok hall 0 hrne
        obtain ⟨tb, hb1, hb2, hb3, hb4, hb5, hb6⟩ := zz_
        have hrn9 : (rightP W 0 ps).length ≤ 9 := List.length_filter_le ..
        have hrl : vr'.length ≤ 100 := by
          have a := hR.len
          have b : (rightP W 0 ps).length ≤ univ.length := List.length_filter_le ..
          simp only [univ, List.length_cons, List.length_nil] at b
          omega
        have hRu : ∀ t ∈ rightP W 0 ps, t.uni := fun t ht => univ_uni t (List.mem_filter.mp ht).1
        have hR0 := hR
        rw [hr] at hR
        cases hR with
        | @cons ar vr2 _ _ hr0 hR2 =>
        have hrl2 : vr2.length ≤ 100000 := by simp only [List.length_cons] at hrl; omega
        cases hw : wysP 0 ps with
        | nil =>
          rw [hw] at fwl
          have fwl : g1 wl = some (lstO [] nw) := fwl
          run_tac walkP [``next_item, ``next_end, ``list_len_cons] [5]
          run_tac mkLoop [0, 1, 2, 3, 4, 5, 6, 7] [.lst 5]
          exact HH _ _ _ _ _ _ _ _ _ _ _ _ _ _ _ _ _ _ _ _ _ _ _ _ _ _ _ _ _ _ _ _ W ps (hBase.mono hle) ⟨_, rfl, .inr ⟨_, .leaf 9, rfl, .leaf (by assumption), hrne, by rw [hb1, hb4 hw]⟩⟩
        | cons b bs =>
          rw [hw] at fwl
          have fwl' : g1 wl = some (lstO (.bool b :: bvs bs) nw) := fwl
          have hbl : (bvs bs).length ≤ 100000 := by
            have a := ways_lens (mineP 0 ps) fun q hq => hall q (List.mem_filter.mp hq).1
            have a' : (bvs (wysP 0 ps)).length ≤ 4 * (mineP 0 ps).length := a
            rw [hw] at a'
            have c := hBase.count
            have d' : (mineP 0 ps).length ≤ ps.length := List.length_filter_le ..
            simp only [bvs, List.length_map, List.length_cons] at a' ⊢
            omega
          cases ha : (b :: bs).any id with
          | true =>
            run_tac walkP [``next_item, ``next_end, ``list_len_cons, ``any_yes] [1008]
            run_tac mkCodeT `cD [10, 11, 12, 13]
            have leA := hle
            have frl := ‹g (ρ3 (nat_lit 15)) = some (lstO (.ref ar :: vr2) _)›
            refine cd_useN [10, 11, 12, 13, 3] ?e1 (by decide) rfl (HD W _ _ _ _ _ _ _ _ aa (.ref ar :: vr2) _ (rightP W 0 ps) hK hPok (hAb.mono leA) (leA _ _ fab) (by show d + 1 + 80 < _; omega) (by show u + 3 + 500 < _; omega) frl (hR0.mono leA) hrne hrn9 hRu) ?x1
            case e1 => exact (takes.spec (T := _) (ks := [10, 11, 12, 13, 3]) (by exact ⟨by kernel_rfl, by kernel_rfl, by kernel_rfl, by kernel_rfl, by kernel_rfl, trivial⟩)).2
            rintro g3 ρ6 tk6 _ _ le3 ⟨rfl, p1', vb', nb', xu, rfl, hBi⟩
            have zz_ := hb5 (by rw [hw]; exact ha)
            obtain ⟨rr, hrr⟩ := zz_
            simp only [if_true, if_false, Bool.false_eq_true] at hBi
            rw [hrr] at hBi
            cases hBi with
            | @cons ab_ vb2 _ _ hbt hBi =>
            run_tac onward
            have hK := hK.mono le3
            run_tac walkP [``list_append_ok] [5]
            run_tac mkLoop [0, 1, 2, 3, 4, 5, 6, 7] [.lst 5]
            exact HH _ _ _ _ _ _ _ _ _ _ _ _ _ _ _ _ _ _ _ _ _ _ _ _ _ _ _ _ _ _ _ _ W ps (hBase.mono (leA.trans (le3.trans hle))) ⟨_, rfl, .inr ⟨_, tb, rfl, hbt.mono hle, hrne, hb1⟩⟩
          | false =>
            run_tac walkP [``next_item, ``next_end, ``list_len_cons, ``any_no] [1008]
            run_tac mkCodeT `cU [10, 11, 12, 13]
            have leA := hle
            have frl := ‹g (ρ3 (nat_lit 15)) = some (lstO (.ref ar :: vr2) _)›
            refine cd_useN [10, 11, 12, 13, 3] ?e2 (by decide) rfl (HU W _ _ _ _ _ _ _ _ aa (.ref ar :: vr2) _ (rightP W 0 ps) hK hPok (hAb.mono leA) (leA _ _ fab) (by show d + 1 + 80 < _; omega) (by show u + 3 + 500 < _; omega) frl (hR0.mono leA) hrne hrn9 hRu) ?x2
            case e2 => exact (takes.spec (T := _) (ks := [10, 11, 12, 13, 3]) (by exact ⟨by kernel_rfl, by kernel_rfl, by kernel_rfl, by kernel_rfl, by kernel_rfl, trivial⟩)).2
            rintro g3 ρ6 tk6 _ _ le3 ⟨rfl, p1', vb', nb', xu, rfl, hBi⟩
            have zz_ := hb6 (by rw [hw]; simp) (by rw [hw]; exact ha)
            obtain ⟨rr, hrr⟩ := zz_
            simp only [if_true, if_false, Bool.false_eq_true] at hBi
            rw [hrr] at hBi
            cases hBi with
            | @cons ab_ vb2 _ _ hbt hBi =>
            run_tac onward
            have hK := hK.mono le3
            run_tac walkP [``list_append_ok] [5]
            run_tac mkLoop [0, 1, 2, 3, 4, 5, 6, 7] [.lst 5]
            exact HH _ _ _ _ _ _ _ _ _ _ _ _ _ _ _ _ _ _ _ _ _ _ _ _ _ _ _ _ _ _ _ _ W ps (hBase.mono (leA.trans (le3.trans hle))) ⟨_, rfl, .inr ⟨_, tb, rfl, hbt.mono hle, hrne, hb1⟩⟩
end Mine

/-! W9 -/
namespace Mine
open PySem PySem.W PySem.W.X

abbrev T4n := (Nat → Nat) → Nat → Nat → Value → Value → Value → Value → Nat → Nat → Nat → Nat → Nat → Nat → Nat → Nat → Nat → Nat → Value → Value → (Nat → Nat) → Nat → (Nat → Nat) → (Nat → Addr) → (Nat → Addr) → Nat → Gm → List Value → Nat → Prop
def C4n (g0 : Gm) (ρ0 : Nat → Addr) (P : T4n) : Prop := ∀ ρr k1 k2 vk vr vi vf pa t1 t2 t3 t4 t5 t6 t7 t8 t9 v1 v2 ρ1 tk1 ρ2 ρ3 ρ4 tk4 g bl nb W ps, Base g0 g ρ0 W pa (ρ1 (nat_lit 40)) ps → mineP 0 ps = [] → (∃ v, bl = [v] ∧ BestOf g W 0 ps v) →
  P ρr k1 k2 vk vr vi vf pa t1 t2 t3 t4 t5 t6 t7 t8 t9 v1 v2 ρ1 tk1 ρ2 ρ3 ρ4 tk4 g bl nb
noncomputable def lawEn (y : Wd) (g0 : Gm) (d u sc m : Nat) (xs : List Value) (hK0 : KIn (tops y) g0) (hd : d + 300 < recursionLimit) (hu : u + 2500 < cLine) (hsc : g0 sc = some (lstO xs m)) (h63 : xs.length ≤ 63) (hi : AllI xs) (F : Frm) (ρ0 : Nat → Addr) (tk : Nat) (R : Result → Shared → Prop) (hk : F.k₀ = 0) :
    { P : T4n // C4n g0 ρ0 P → C3n g0 ρ0 (lawD y g0 d u sc m xs hK0 hd hu hsc h63 hi F ρ0 tk R hk).1.2.2.1 } := by
  refine ⟨?P4n, ?A⟩
  case A =>
    intro HH
    unfold C4n at HH
    run_tac openLast
    intro ρr k1 k2 vk vr vi vf pa t1 t2 t3 t4 t5 t6 t7 t8 t9 v1 v2 ρ1 tk1 ρ2 ρ3 ρ4 tk4 vr' nr' g1 W ps hBase hm ⟨nv, fml⟩ hR ρ5 tk5
    have hK := hK0.mono hBase.le
    have hPok := hBase.wo.parOk
    have hall : ∀ q ∈ ps, parOk q := by obtain ⟨ws, _, _, hQ⟩ := hBase.pars; exact hQ.ok
    have hr : rightP W 0 ps = univ := by rw [rightP, hm]; simp
    have hrne : rightP W 0 ps ≠ [] := by rw [hr]; simp [univ]
    have hw : wysP 0 ps = [] := by rw [wysP, hm]; rfl
    have zz_ := right_best hPok hall 0 hrne
    obtain ⟨tb, hb1, hb2, hb3, hb4, _, _⟩ := zz_
    have hrl : vr'.length ≤ 100 := by
      have a := hR.len
      have b : (rightP W 0 ps).length ≤ univ.length := List.length_filter_le ..
      simp only [univ, List.length_cons, List.length_nil] at b
      omega
    generalize hu0 : rightP W 0 ps = un at hR
    cases hR with
    | nil => exact absurd hu0 hrne
    | @cons ar vr2 _ _ hr0 hR2 =>
    have hrl2 : vr2.length ≤ 100000 := by simp only [List.length_cons] at hrl; omega
    run_tac walkP [``list_len_cons] [5]
    run_tac mkOut `P4n [0, 1, 2, 3, 4, 5, 6, 7] [.lst 5]
    exact HH _ _ _ _ _ _ _ _ _ _ _ _ _ _ _ _ _ _ _ _ _ _ _ _ _ _ _ _ W ps (hBase.mono hle) hm ⟨_, rfl, .inr ⟨_, .leaf 9, rfl, .leaf (by assumption), hrne, by rw [hb1, hb4 hw]⟩⟩
end Mine

/-! W10 -/
namespace Mine
open PySem PySem.W PySem.W.X

def bel (dn : Bool) (W : Wo) (u w : PT) : Bool := if dn = true then u.sub W w else w.sub W u
theorem best_bel (dn : Bool) (W : Wo) (ts : List PT) : (if dn = true then downs W ts else ups W ts) = ts.filter fun u => ts.all (bel dn W u) := by
  cases dn
  · have z : ∀ u, bel false W u = fun w => w.sub W u := fun u => by funext w; simp [bel]
    show ups W ts = _
    simp only [ups, z]
  · have z : ∀ u, bel true W u = fun w => u.sub W w := fun u => by funext w; simp [bel]
    show downs W ts = _
    simp only [downs, z]
def InnerB (y : Wd) (ρ0 : Nat → Addr) (dn : Bool) (c : Cd5) : Prop := ∀ (W : Wo) (g : Gm) (d u ofr it acc fr uc rl ab ua : Nat) (tu : PT) (rs : List Value) (nr : Nat) (ts : List PT), KIn (tops y) g → ParOk W → AbIs g W ab → g (ρ0 (nat_lit 1)) = some (celO (.ref ab)) → d + 60 < recursionLimit → u + 400 < cLine →
  g rl = some (lstO rs nr) → PTsAre g rs ts → ts ≠ [] → ts.length ≤ 9 → (∀ t ∈ ts, t.uni) → PTIs g ua tu → tu.uni →
  PuN (cx y) g d u (c ofr it acc fr uc) [(it, liO rl 0), (acc, lstO [] 0), (fr, dct [] 0), (uc, celO (.ref ua))]
    (fun g' os' r => r = .ok .next ∧ ∃ p1 n h1 q1 x1 m, os' = [p1, lstO (bvs (ts.map (bel dn W tu))) n, dct [key h1 q1 "w" (.ref x1)] m, celO (.ref ua)])

noncomputable def lawGt (y : Wd) (g0 : Gm) (d u sc m : Nat) (xs : List Value) (hK0 : KIn (tops y) g0) (hd : d + 300 < recursionLimit) (hu : u + 2500 < cLine) (hsc : g0 sc = some (lstO xs m)) (h63 : xs.length ≤ 63) (hi : AllI xs) (F : Frm) (ρ0 : Nat → Addr) (tk : Nat) (R : Result → Shared → Prop) (hk : F.k₀ = 0) : { cI : Cd5 // InnerB y ρ0 true cI → BestSpec y ρ0 true (lawE y g0 d u sc m xs hK0 hd hu hsc h63 hi F ρ0 tk R hk).1.1 } := by
  refine ⟨?cI, ?A⟩
  case A =>
    intro HI
    unfold InnerB at HI
    run_tac openLast
    intro W g1 e v it acc fr uc rl ab mvs nv ts hK hPo hAb fab hd' hu' fml hMi hne h9 hun
    rw [best_bel]
    refine pun_of fun F ρr tkr R hk K => ?_
    have hk : F.k₀ = 5 := hk
    run_tac normCd
    cases ts with
    | nil => exact absurd rfl hne
    | cons m0 ms =>
    have hMi0 := hMi
    cases hMi0 with
    | @cons a0 us _ _ hp0 hU =>
    have hx0 : (Value.ref a0 :: us)[0]? = some (Value.ref a0) := rfl
    have t0u : m0.uni := hun m0 (List.mem_cons_self ..)
    have ex_ : ∃ mvs, Value.ref a0 :: us = mvs := ⟨_, rfl⟩
    obtain ⟨mvs, hmv⟩ := ex_
    rw [hmv] at hx0 fml hMi
    refine via_P (T := Gm → Nat → Value → List Value → Nat → Prop) ?P1 (fun P => ∀ g i vu rs n done rest vs2, Le g1 g → mvs.drop i = vs2 → done ++ rest = m0 :: ms → PTsAre g vs2 rest → PTsAre g rs (done.filter fun u => (m0 :: ms).all (bel true W u)) → (∃ a, vu = .ref a) → P g i vu rs n) ?A1 ?B1
    case A1 =>
      intro HH
      run_tac walkP [``next_item, ``next_end]
      run_tac mkCodeT `cI [5, 6, 7, 3]
      have leA := hle
      refine cd_useN [5, 6, 7, 3] ?e1 (by decide) rfl (HI W _ _ _ _ _ _ _ _ rl ab a0 m0 mvs nv (m0 :: ms) hK hPo (hAb.mono (leA)) ((leA) _ _ fab) (by show e + 60 < _; omega) (by show v + 400 < _; omega) ((leA) _ _ fml) (hMi.mono (leA)) (by simp) h9 hun (hp0.mono leA) t0u) ?x1
      case e1 => exact (takes.spec (T := _) (ks := [5, 6, 7, 3]) (by exact ⟨by kernel_rfl, by kernel_rfl, by kernel_rfl, by kernel_rfl, trivial⟩)).2
      rintro g2 ρ3 tk3 _ _ le2 ⟨rfl, p1, nI, _, _, _, _, rfl⟩
      run_tac onward
      have hKb := hK.mono le2
      have fml1 := le2 _ _ (leA _ _ fml)
      run_tac walkP [``next_item, ``next_end, ``list_append_ok, ``allS_ok]
      · have hok : (m0 :: ms).all (bel true W m0) = true := all_yes (by assumption) (by assumption)
        run_tac mkOut `P1 [0, 1, 2, 3, 4] [.idx 0, .cel 3, .lst 1]
        exact HH _ _ _ _ _ [m0] ms us (leA.trans (le2.trans hle)) (by rw [← hmv]; rfl) rfl (hU.mono (leA.trans (le2.trans hle))) (by
          rw [List.filter_cons_of_pos (by exact hok)]; exact .cons (hp0.mono (leA.trans (le2.trans hle))) .nil) ⟨_, rfl⟩
      · have hok : (m0 :: ms).all (bel true W m0) = false := all_no (by assumption) (by assumption)
        run_tac mkLoop [0, 1, 2, 3, 4] [.idx 0, .cel 3, .lst 1]
        exact HH _ _ _ _ _ [m0] ms us (leA.trans (le2.trans hle)) (by rw [← hmv]; rfl) rfl (hU.mono (leA.trans (le2.trans hle))) (by
          rw [List.filter_cons_of_neg (by rw [hok]; exact Bool.false_ne_true)]; exact .nil) ⟨_, rfl⟩
    case B1 =>
      intro g i vu rs n done rest vs2 le0 hdr hdn hPs hRs hvu
      induction rest generalizing g i vu rs n done vs2 with
      | nil =>
        intro ρ1 tk1
        cases hPs
        rw [List.append_nil] at hdn
        obtain ⟨_, rfl⟩ := hvu
        have hK := hK.mono le0
        have fu1 := le0 _ _ fml
        have hx := drop_end hdr
        run_tac walkP [``next_item, ``next_end]
        all_goals exact K _ _ _ _ _ [_, _, _, _, _] (le0.trans hle) ⟨rfl, rfl, rfl, rfl, rfl, trivial⟩ ⟨rfl, _, _, _, _, rfl, by subst hdn; exact hRs.mono hle⟩
      | cons t2 rest ih =>
        intro ρ1 tk1
        cases hPs with
        | @cons a2 vs2 _ _ hp2 hPs =>
        have zz_ := drop_at hdr
        obtain ⟨hx, hdr'⟩ := zz_
        obtain ⟨_, rfl⟩ := hvu
        have hK := hK.mono le0
        have fml0 := le0 _ _ fml
        have t2u : t2.uni := hun t2 (by rw [← hdn]; simp)
        have hln : rs.length ≤ 100000 := by
          have := hRs.len
          have : (done.filter fun u => (m0 :: ms).all (bel true W u)).length ≤ done.length := List.length_filter_le ..
          have := congrArg List.length hdn
          simp only [List.length_append, List.length_cons, List.length_nil] at *
          omega
        have app : ∀ t : PT, (done ++ [t]).filter (fun u => (m0 :: ms).all (bel true W u)) = done.filter (fun u => (m0 :: ms).all (bel true W u)) ++ [t].filter (fun u => (m0 :: ms).all (bel true W u)) := fun t => by rw [List.filter_append]
        run_tac walkP [``next_item, ``next_end]
        have leA := hle
        refine cd_useN [5, 6, 7, 3] ?e2 (by decide) rfl (HI W _ _ _ _ _ _ _ _ rl ab a2 t2 mvs nv (m0 :: ms) hK hPo (hAb.mono (le0.trans leA)) ((le0.trans leA) _ _ fab) (by show e + 60 < _; omega) (by show v + 400 < _; omega) ((le0.trans leA) _ _ fml) (hMi.mono (le0.trans leA)) (by simp) h9 hun (hp2.mono leA) t2u) ?x2
        case e2 => exact (takes.spec (T := _) (ks := [5, 6, 7, 3]) (by exact ⟨by kernel_rfl, by kernel_rfl, by kernel_rfl, by kernel_rfl, trivial⟩)).2
        rintro g2 ρ3 tk3 _ _ le2 ⟨rfl, p1, nI, _, _, _, _, rfl⟩
        run_tac onward
        have hKb := hK.mono le2
        have fml1 := le2 _ _ (leA _ _ fml0)
        run_tac walkP [``next_item, ``next_end, ``list_append_ok, ``allS_ok]
        · have hok : (m0 :: ms).all (bel true W t2) = true := all_yes (by assumption) (by assumption)
          run_tac mkLoop [0, 1, 2, 3, 4] [.idx 0, .cel 3, .lst 1]
          exact ih _ _ _ _ _ (done ++ [t2]) vs2 (le0.trans (leA.trans (le2.trans hle))) hdr' (by rw [← hdn]; simp) (hPs.mono (leA.trans (le2.trans hle))) (by
            rw [app, List.filter_cons_of_pos (by exact hok)]; exact (hRs.mono (leA.trans (le2.trans hle))).snoc (hp2.mono (leA.trans (le2.trans hle)))) ⟨_, rfl⟩
        · have hok : (m0 :: ms).all (bel true W t2) = false := all_no (by assumption) (by assumption)
          run_tac mkLoop [0, 1, 2, 3, 4] [.idx 0, .cel 3, .lst 1]
          exact ih _ _ _ _ _ (done ++ [t2]) vs2 (le0.trans (leA.trans (le2.trans hle))) hdr' (by rw [← hdn]; simp) (hPs.mono (leA.trans (le2.trans hle))) (by
            rw [app, List.filter_cons_of_neg (by rw [hok]; exact Bool.false_ne_true)]; simpa using hRs.mono (leA.trans (le2.trans hle))) ⟨_, rfl⟩

noncomputable def lawGf (y : Wd) (g0 : Gm) (d u sc m : Nat) (xs : List Value) (hK0 : KIn (tops y) g0) (hd : d + 300 < recursionLimit) (hu : u + 2500 < cLine) (hsc : g0 sc = some (lstO xs m)) (h63 : xs.length ≤ 63) (hi : AllI xs) (F : Frm) (ρ0 : Nat → Addr) (tk : Nat) (R : Result → Shared → Prop) (hk : F.k₀ = 0) : { cI : Cd5 // InnerB y ρ0 false cI → BestSpec y ρ0 false (lawE y g0 d u sc m xs hK0 hd hu hsc h63 hi F ρ0 tk R hk).1.2.1 } := by
  refine ⟨?cI, ?A⟩
  case A =>
    intro HI
    unfold InnerB at HI
    run_tac openLast
    intro W g1 e v it acc fr uc rl ab mvs nv ts hK hPo hAb fab hd' hu' fml hMi hne h9 hun
    rw [best_bel]
    refine pun_of fun F ρr tkr R hk K => ?_
    have hk : F.k₀ = 5 := hk
    run_tac normCd
    cases ts with
    | nil => exact absurd rfl hne
    | cons m0 ms =>
    have hMi0 := hMi
    cases hMi0 with
    | @cons a0 us _ _ hp0 hU =>
    have hx0 : (Value.ref a0 :: us)[0]? = some (Value.ref a0) := rfl
    have t0u : m0.uni := hun m0 (List.mem_cons_self ..)
    have ex_ : ∃ mvs, Value.ref a0 :: us = mvs := ⟨_, rfl⟩
    obtain ⟨mvs, hmv⟩ := ex_
    rw [hmv] at hx0 fml hMi
    refine via_P (T := Gm → Nat → Value → List Value → Nat → Prop) ?P1 (fun P => ∀ g i vu rs n done rest vs2, Le g1 g → mvs.drop i = vs2 → done ++ rest = m0 :: ms → PTsAre g vs2 rest → PTsAre g rs (done.filter fun u => (m0 :: ms).all (bel false W u)) → (∃ a, vu = .ref a) → P g i vu rs n) ?A1 ?B1
    case A1 =>
      intro HH
      run_tac walkP [``next_item, ``next_end]
      run_tac mkCodeT `cI [5, 6, 7, 3]
      have leA := hle
      refine cd_useN [5, 6, 7, 3] ?e1 (by decide) rfl (HI W _ _ _ _ _ _ _ _ rl ab a0 m0 mvs nv (m0 :: ms) hK hPo (hAb.mono (leA)) ((leA) _ _ fab) (by show e + 60 < _; omega) (by show v + 400 < _; omega) ((leA) _ _ fml) (hMi.mono (leA)) (by simp) h9 hun (hp0.mono leA) t0u) ?x1
      case e1 => exact (takes.spec (T := _) (ks := [5, 6, 7, 3]) (by exact ⟨by kernel_rfl, by kernel_rfl, by kernel_rfl, by kernel_rfl, trivial⟩)).2
      rintro g2 ρ3 tk3 _ _ le2 ⟨rfl, p1, nI, _, _, _, _, rfl⟩
      run_tac onward
      have hKb := hK.mono le2
      have fml1 := le2 _ _ (leA _ _ fml)
      run_tac walkP [``next_item, ``next_end, ``list_append_ok, ``allS_ok]
      · have hok : (m0 :: ms).all (bel false W m0) = true := all_yes (by assumption) (by assumption)
        run_tac mkOut `P1 [0, 1, 2, 3, 4] [.idx 0, .cel 3, .lst 1]
        exact HH _ _ _ _ _ [m0] ms us (leA.trans (le2.trans hle)) (by rw [← hmv]; rfl) rfl (hU.mono (leA.trans (le2.trans hle))) (by
          rw [List.filter_cons_of_pos (by exact hok)]; exact .cons (hp0.mono (leA.trans (le2.trans hle))) .nil) ⟨_, rfl⟩
      · have hok : (m0 :: ms).all (bel false W m0) = false := all_no (by assumption) (by assumption)
        run_tac mkLoop [0, 1, 2, 3, 4] [.idx 0, .cel 3, .lst 1]
        exact HH _ _ _ _ _ [m0] ms us (leA.trans (le2.trans hle)) (by rw [← hmv]; rfl) rfl (hU.mono (leA.trans (le2.trans hle))) (by
          rw [List.filter_cons_of_neg (by rw [hok]; exact Bool.false_ne_true)]; exact .nil) ⟨_, rfl⟩
    case B1 =>
      intro g i vu rs n done rest vs2 le0 hdr hdn hPs hRs hvu
      induction rest generalizing g i vu rs n done vs2 with
      | nil =>
        intro ρ1 tk1
        cases hPs
        rw [List.append_nil] at hdn
        obtain ⟨_, rfl⟩ := hvu
        have hK := hK.mono le0
        have fu1 := le0 _ _ fml
        have hx := drop_end hdr
        run_tac walkP [``next_item, ``next_end]
        all_goals exact K _ _ _ _ _ [_, _, _, _, _] (le0.trans hle) ⟨rfl, rfl, rfl, rfl, rfl, trivial⟩ ⟨rfl, _, _, _, _, rfl, by subst hdn; exact hRs.mono hle⟩
      | cons t2 rest ih =>
        intro ρ1 tk1
        cases hPs with
        | @cons a2 vs2 _ _ hp2 hPs =>
        have zz_ := drop_at hdr
        obtain ⟨hx, hdr'⟩ := zz_
        obtain ⟨_, rfl⟩ := hvu
        have hK := hK.mono le0
        have fml0 := le0 _ _ fml
        have t2u : t2.uni := hun t2 (by rw [← hdn]; simp)
        have hln : rs.length ≤ 100000 := by
          have := hRs.len
          have : (done.filter fun u => (m0 :: ms).all (bel false W u)).length ≤ done.length := List.length_filter_le ..
          have := congrArg List.length hdn
          simp only [List.length_append, List.length_cons, List.length_nil] at *
          omega
        have app : ∀ t : PT, (done ++ [t]).filter (fun u => (m0 :: ms).all (bel false W u)) = done.filter (fun u => (m0 :: ms).all (bel false W u)) ++ [t].filter (fun u => (m0 :: ms).all (bel false W u)) := fun t => by rw [List.filter_append]
        run_tac walkP [``next_item, ``next_end]
        have leA := hle
        refine cd_useN [5, 6, 7, 3] ?e2 (by decide) rfl (HI W _ _ _ _ _ _ _ _ rl ab a2 t2 mvs nv (m0 :: ms) hK hPo (hAb.mono (le0.trans leA)) ((le0.trans leA) _ _ fab) (by show e + 60 < _; omega) (by show v + 400 < _; omega) ((le0.trans leA) _ _ fml) (hMi.mono (le0.trans leA)) (by simp) h9 hun (hp2.mono leA) t2u) ?x2
        case e2 => exact (takes.spec (T := _) (ks := [5, 6, 7, 3]) (by exact ⟨by kernel_rfl, by kernel_rfl, by kernel_rfl, by kernel_rfl, trivial⟩)).2
        rintro g2 ρ3 tk3 _ _ le2 ⟨rfl, p1, nI, _, _, _, _, rfl⟩
        run_tac onward
        have hKb := hK.mono le2
        have fml1 := le2 _ _ (leA _ _ fml0)
        run_tac walkP [``next_item, ``next_end, ``list_append_ok, ``allS_ok]
        · have hok : (m0 :: ms).all (bel false W t2) = true := all_yes (by assumption) (by assumption)
          run_tac mkLoop [0, 1, 2, 3, 4] [.idx 0, .cel 3, .lst 1]
          exact ih _ _ _ _ _ (done ++ [t2]) vs2 (le0.trans (leA.trans (le2.trans hle))) hdr' (by rw [← hdn]; simp) (hPs.mono (leA.trans (le2.trans hle))) (by
            rw [app, List.filter_cons_of_pos (by exact hok)]; exact (hRs.mono (leA.trans (le2.trans hle))).snoc (hp2.mono (leA.trans (le2.trans hle)))) ⟨_, rfl⟩
        · have hok : (m0 :: ms).all (bel false W t2) = false := all_no (by assumption) (by assumption)
          run_tac mkLoop [0, 1, 2, 3, 4] [.idx 0, .cel 3, .lst 1]
          exact ih _ _ _ _ _ (done ++ [t2]) vs2 (le0.trans (leA.trans (le2.trans hle))) hdr' (by rw [← hdn]; simp) (hPs.mono (leA.trans (le2.trans hle))) (by
            rw [app, List.filter_cons_of_neg (by rw [hok]; exact Bool.false_ne_true)]; simpa using hRs.mono (leA.trans (le2.trans hle))) ⟨_, rfl⟩

end Mine

/-! W11 -/
namespace Mine
open PySem PySem.W PySem.W.X

theorem says_to {bl a b : Bool} (s : Says bl a) (e : a = b) : Says bl b := e ▸ s
theorem innerD_ok (y : Wd) (g0 : Gm) (d u sc m : Nat) (xs : List Value) (hK0 : KIn (tops y) g0) (hd : d + 300 < recursionLimit) (hu : u + 2500 < cLine) (hsc : g0 sc = some (lstO xs m)) (h63 : xs.length ≤ 63) (hi : AllI xs) (F : Frm) (ρ0 : Nat → Addr) (tk : Nat) (R : Result → Shared → Prop) (hk : F.k₀ = 0) : InnerB y ρ0 true (lawGt y g0 d u sc m xs hK0 hd hu hsc h63 hi F ρ0 tk R hk).1 := by
  run_tac openLast
  intro W g1 e v ofr it acc fr uc rl ab ua tu mvs nv ms hK hPo hAb fab hd' hu' fml hMi hne h9 hun hpu htu
  have be := below_ok y W 3
  unfold belowSpec at be
  have tuty := (PT.uni_ty htu).1
  have tudp : tu.dep ≤ 3 := by have := (PT.uni_ty htu).2; omega
  refine pun_of fun F ρr tkr R hk K => ?_
  have hk : F.k₀ = 4 := hk
  run_tac normCd
  cases hMi with
  | nil => exact absurd rfl hne
  | @cons a0 mvs p0 qs hp0 hMi =>
  have hx0 : (Value.ref a0 :: mvs)[0]? = some (Value.ref a0) := rfl
  refine via_P (T := Nat → Gm → Nat → Value → List Value → Nat → Prop) ?P1 (fun P => ∀ x g i vt rs n done rest vs2, Le g1 g → (Value.ref a0 :: mvs).drop i = vs2 → done ++ rest = p0 :: qs → PTsAre g vs2 rest → rs = bvs (done.map (bel true W tu)) → (∃ a, vt = .ref a) → P x g i vt rs n) ?A1 ?B1
  case A1 =>
    intro HH
    have wu := hun p0 (List.mem_cons_self ..)
    have wty := (PT.uni_ty wu).1
    have wdp : (p0).dep ≤ 3 := by have := (PT.uni_ty wu).2; omega
    run_tac walkP [``next_item, ``next_end, ``list_append_ok]
    have hsays0 := ‹Says _ (tu.sub W (p0))›
    have hsays := says_to hsays0 (show (tu.sub W (p0)) = bel true W tu (p0) by simp [bel])
    run_tac mkOut `P1 [0, 1, 2, 3] [.idx 0, .ent 2 0, .lst 1]
    exact HH _ _ _ _ _ _ [p0] qs mvs hle rfl rfl (hMi.mono hle) (by rw [says_eq hsays]; rfl) ⟨_, rfl⟩
  case B1 =>
    intro x g i vt rs n done rest vs2 le0 hdr hdn hMs hrs ht
    induction rest generalizing g i vt rs n done vs2 with
    | nil =>
      intro ρ1 tk1
      cases hMs
      rw [List.append_nil] at hdn
      subst hdn
      obtain ⟨_, rfl⟩ := ht
      have hK := hK.mono le0
      have fml0 := le0 _ _ fml
      have hx := drop_end hdr
      run_tac walkP [``next_item, ``next_end]
      all_goals exact K _ _ _ _ _ [_, _, _, _] (le0.trans hle) ⟨rfl, rfl, rfl, rfl, trivial⟩ ⟨rfl, _, _, _, _, _, _, by rw [hrs]; rfl⟩
    | cons p rest ih =>
      intro ρ1 tk1
      cases hMs with
      | @cons a2 vs2 _ _ hp2 hMs =>
      have zz_ := drop_at hdr
      obtain ⟨hx, hdr'⟩ := zz_
      obtain ⟨_, rfl⟩ := ht
      have hK := hK.mono le0
      have fml0 := le0 _ _ fml
      have fab0 := le0 _ _ fab
      have hAb0 := hAb.mono le0
      have hpu0 := hpu.mono le0
      have hln : rs.length ≤ 100000 := by
        have := congrArg List.length hdn
        rw [hrs, bvs, List.length_map, List.length_map]
        simp only [List.length_append, List.length_cons] at *
        omega
      have wu := hun p (by rw [← hdn]; simp)
      have wty := (PT.uni_ty wu).1
      have wdp : (p).dep ≤ 3 := by have := (PT.uni_ty wu).2; omega
      run_tac walkP [``next_item, ``next_end, ``list_append_ok]
      have hsays0 := ‹Says _ (tu.sub W (p))›
      have hsays := says_to hsays0 (show (tu.sub W (p)) = bel true W tu (p) by simp [bel])
      run_tac mkLoop [0, 1, 2, 3] [.idx 0, .ent 2 0, .lst 1]
      exact ih _ _ _ _ _ (done ++ [p]) vs2 (le0.trans hle) hdr' (by rw [← hdn]; simp) (hMs.mono hle) (by rw [says_eq hsays, hrs, List.map_append, ← bvs_append]; rfl) ⟨_, rfl⟩

theorem innerU_ok (y : Wd) (g0 : Gm) (d u sc m : Nat) (xs : List Value) (hK0 : KIn (tops y) g0) (hd : d + 300 < recursionLimit) (hu : u + 2500 < cLine) (hsc : g0 sc = some (lstO xs m)) (h63 : xs.length ≤ 63) (hi : AllI xs) (F : Frm) (ρ0 : Nat → Addr) (tk : Nat) (R : Result → Shared → Prop) (hk : F.k₀ = 0) : InnerB y ρ0 false (lawGf y g0 d u sc m xs hK0 hd hu hsc h63 hi F ρ0 tk R hk).1 := by
  run_tac openLast
  intro W g1 e v ofr it acc fr uc rl ab ua tu mvs nv ms hK hPo hAb fab hd' hu' fml hMi hne h9 hun hpu htu
  have be := below_ok y W 3
  unfold belowSpec at be
  have tuty := (PT.uni_ty htu).1
  have tudp : tu.dep ≤ 3 := by have := (PT.uni_ty htu).2; omega
  refine pun_of fun F ρr tkr R hk K => ?_
  have hk : F.k₀ = 4 := hk
  run_tac normCd
  cases hMi with
  | nil => exact absurd rfl hne
  | @cons a0 mvs p0 qs hp0 hMi =>
  have hx0 : (Value.ref a0 :: mvs)[0]? = some (Value.ref a0) := rfl
  refine via_P (T := Nat → Gm → Nat → Value → List Value → Nat → Prop) ?P1 (fun P => ∀ x g i vt rs n done rest vs2, Le g1 g → (Value.ref a0 :: mvs).drop i = vs2 → done ++ rest = p0 :: qs → PTsAre g vs2 rest → rs = bvs (done.map (bel false W tu)) → (∃ a, vt = .ref a) → P x g i vt rs n) ?A1 ?B1
  case A1 =>
    intro HH
    have wu := hun p0 (List.mem_cons_self ..)
    have wty := (PT.uni_ty wu).1
    have wdp : (p0).dep ≤ 3 := by have := (PT.uni_ty wu).2; omega
    run_tac walkP [``next_item, ``next_end, ``list_append_ok]
    have hsays0 := ‹Says _ ((p0).sub W tu)›
    have hsays := says_to hsays0 (show ((p0).sub W tu) = bel false W tu (p0) by simp [bel])
    run_tac mkOut `P1 [0, 1, 2, 3] [.idx 0, .ent 2 0, .lst 1]
    exact HH _ _ _ _ _ _ [p0] qs mvs hle rfl rfl (hMi.mono hle) (by rw [says_eq hsays]; rfl) ⟨_, rfl⟩
  case B1 =>
    intro x g i vt rs n done rest vs2 le0 hdr hdn hMs hrs ht
    induction rest generalizing g i vt rs n done vs2 with
    | nil =>
      intro ρ1 tk1
      cases hMs
      rw [List.append_nil] at hdn
      subst hdn
      obtain ⟨_, rfl⟩ := ht
      have hK := hK.mono le0
      have fml0 := le0 _ _ fml
      have hx := drop_end hdr
      run_tac walkP [``next_item, ``next_end]
      all_goals exact K _ _ _ _ _ [_, _, _, _] (le0.trans hle) ⟨rfl, rfl, rfl, rfl, trivial⟩ ⟨rfl, _, _, _, _, _, _, by rw [hrs]; rfl⟩
    | cons p rest ih =>
      intro ρ1 tk1
      cases hMs with
      | @cons a2 vs2 _ _ hp2 hMs =>
      have zz_ := drop_at hdr
      obtain ⟨hx, hdr'⟩ := zz_
      obtain ⟨_, rfl⟩ := ht
      have hK := hK.mono le0
      have fml0 := le0 _ _ fml
      have fab0 := le0 _ _ fab
      have hAb0 := hAb.mono le0
      have hpu0 := hpu.mono le0
      have hln : rs.length ≤ 100000 := by
        have := congrArg List.length hdn
        rw [hrs, bvs, List.length_map, List.length_map]
        simp only [List.length_append, List.length_cons] at *
        omega
      have wu := hun p (by rw [← hdn]; simp)
      have wty := (PT.uni_ty wu).1
      have wdp : (p).dep ≤ 3 := by have := (PT.uni_ty wu).2; omega
      run_tac walkP [``next_item, ``next_end, ``list_append_ok]
      have hsays0 := ‹Says _ ((p).sub W tu)›
      have hsays := says_to hsays0 (show ((p).sub W tu) = bel false W tu (p) by simp [bel])
      run_tac mkLoop [0, 1, 2, 3] [.idx 0, .ent 2 0, .lst 1]
      exact ih _ _ _ _ _ (done ++ [p]) vs2 (le0.trans hle) hdr' (by rw [← hdn]; simp) (hMs.mono hle) (by rw [says_eq hsays, hrs, List.map_append, ← bvs_append]; rfl) ⟨_, rfl⟩

theorem right_ok (y : Wd) (g0 : Gm) (d u sc m : Nat) (xs : List Value) (hK0 : KIn (tops y) g0) (hd : d + 300 < recursionLimit) (hu : u + 2500 < cLine) (hsc : g0 sc = some (lstO xs m)) (h63 : xs.length ≤ 63) (hi : AllI xs) (F : Frm) (ρ0 : Nat → Addr) (tk : Nat) (R : Result → Shared → Prop) (hk : F.k₀ = 0) : RightSpec y ρ0 (lawD y g0 d u sc m xs hK0 hd hu hsc h63 hi F ρ0 tk R hk).1.2.1 := (lawR y g0 d u sc m xs hK0 hd hu hsc h63 hi F ρ0 tk R hk).2 (inner_ok y g0 d u sc m xs hK0 hd hu hsc h63 hi F ρ0 tk R hk)
theorem bestD_ok (y : Wd) (g0 : Gm) (d u sc m : Nat) (xs : List Value) (hK0 : KIn (tops y) g0) (hd : d + 300 < recursionLimit) (hu : u + 2500 < cLine) (hsc : g0 sc = some (lstO xs m)) (h63 : xs.length ≤ 63) (hi : AllI xs) (F : Frm) (ρ0 : Nat → Addr) (tk : Nat) (R : Result → Shared → Prop) (hk : F.k₀ = 0) : BestSpec y ρ0 true (lawE y g0 d u sc m xs hK0 hd hu hsc h63 hi F ρ0 tk R hk).1.1 := (lawGt y g0 d u sc m xs hK0 hd hu hsc h63 hi F ρ0 tk R hk).2 (innerD_ok y g0 d u sc m xs hK0 hd hu hsc h63 hi F ρ0 tk R hk)
theorem bestU_ok (y : Wd) (g0 : Gm) (d u sc m : Nat) (xs : List Value) (hK0 : KIn (tops y) g0) (hd : d + 300 < recursionLimit) (hu : u + 2500 < cLine) (hsc : g0 sc = some (lstO xs m)) (h63 : xs.length ≤ 63) (hi : AllI xs) (F : Frm) (ρ0 : Nat → Addr) (tk : Nat) (R : Result → Shared → Prop) (hk : F.k₀ = 0) : BestSpec y ρ0 false (lawE y g0 d u sc m xs hK0 hd hu hsc h63 hi F ρ0 tk R hk).1.2.1 := (lawGf y g0 d u sc m xs hK0 hd hu hsc h63 hi F ρ0 tk R hk).2 (innerU_ok y g0 d u sc m xs hK0 hd hu hsc h63 hi F ρ0 tk R hk)
end Mine

/-! W12 -/
namespace Mine
open PySem PySem.W PySem.W.X

open Lean Meta Elab Tactic in
/-- a hypothesis' last word written out and its condition opened -/
def openHyp (nm : Name) : TacticM Unit := do
  let g ← getMainGoal
  g.withContext do
    let some d := (← getLCtx).findFromUserName? nm | throwError "openHyp: {nm}"
    let t := (← instantiateMVars d.type).consumeMData.cleanupAnnotations
    unless t.isApp do throwError "openHyp: {d.userName} : {t}"
    let v ← whnf t.appArg!
    let t' := mkApp t.appFn! v
    let some t'' ← unfoldDefinition? t' | throwError "openHyp: the condition"
    replaceMainGoal [← g.replaceLocalDeclDefEq d.fvarId t''.headBeta]
theorem BestOf.mono {g g' : Gm} {W : Wo} {j : Nat} {ps : List Par} {v : Value} (l : Le g g') (h : BestOf g W j ps v) : BestOf g' W j ps v := by
  rcases h with h | ⟨a, t, e, p, q, r⟩
  · exact .inl h
  · exact .inr ⟨a, t, e, p.mono l, q, r⟩
abbrev T5n := (Nat → Nat) → Nat → Nat → Value → Value → Value → Value → Nat → Nat → Nat → Nat → Nat → Nat → Nat → Nat → Nat → Nat → Value → Value → (Nat → Nat) → Nat → (Nat → Addr) → (Nat → Addr) → Nat → Nat → Value → Value → Addr → Nat → Value → (Nat → Nat) → (Nat → Addr) → (Nat → Addr) → List Value → Nat → Gm → Prop
abbrev T5 := (Nat → Nat) → Nat → Nat → Value → Value → Value → Value → Nat → Nat → Nat → Nat → Nat → Nat → Nat → Nat → Nat → Nat → Value → Value → (Nat → Nat) → Nat → (Nat → Addr) → (Nat → Addr) → Nat → Nat → Value → Value → Addr → Nat → Value → (Nat → Nat) → (Nat → Addr) → (Nat → Addr) → List Value → Nat → Gm → Nat → Value → Value → Value → Prop
def C5n (g0 : Gm) (ρ0 : Nat → Addr) (P : T5n) : Prop := ∀ ρr k1 k2 vk vr vi vf pa t1 t2 t3 t4 t5 t6 t7 t8 t9 v1 v2 ρ1 tk1 ρ3 ρ4 tk4 tkw vt va wl nb w0 ρ5 ρ6 ρ7 vr' nr' g W ps, Base g0 g ρ0 W pa (ρ1 (nat_lit 40)) ps → BestOf g W 0 ps w0 → mineP 1 ps = [] → (∃ nv, g (ρ5 (nat_lit 9)) = some (lstO [] nv)) → PTsAre g vr' (rightP W 1 ps) → P ρr k1 k2 vk vr vi vf pa t1 t2 t3 t4 t5 t6 t7 t8 t9 v1 v2 ρ1 tk1 ρ3 ρ4 tk4 tkw vt va wl nb w0 ρ5 ρ6 ρ7 vr' nr' g
def C5 (g0 : Gm) (ρ0 : Nat → Addr) (P : T5) : Prop := ∀ ρr k1 k2 vk vr vi vf pa t1 t2 t3 t4 t5 t6 t7 t8 t9 v1 v2 ρ1 tk1 ρ3 ρ4 tk4 tkw vt va wl nb w0 ρ5 ρ6 ρ7 vr' nr' g i xt xw xa W ps, Base g0 g ρ0 W pa (ρ1 (nat_lit 40)) ps → BestOf g W 0 ps w0 → LoopW g (ρ5 (nat_lit 9)) i xw (mineP 1 ps) → PTsAre g vr' (rightP W 1 ps) → P ρr k1 k2 vk vr vi vf pa t1 t2 t3 t4 t5 t6 t7 t8 t9 v1 v2 ρ1 tk1 ρ3 ρ4 tk4 tkw vt va wl nb w0 ρ5 ρ6 ρ7 vr' nr' g i xt xw xa
noncomputable def lawF (y : Wd) (g0 : Gm) (d u sc m : Nat) (xs : List Value) (hK0 : KIn (tops y) g0) (hd : d + 300 < recursionLimit) (hu : u + 2500 < cLine) (hsc : g0 sc = some (lstO xs m)) (h63 : xs.length ≤ 63) (hi : AllI xs) (F : Frm) (ρ0 : Nat → Addr) (tk : Nat) (R : Result → Shared → Prop) (hk : F.k₀ = 0) :
    { P : T5n × T5 // C5n g0 ρ0 P.1 → C5 g0 ρ0 P.2 → C4 g0 ρ0 (lawE y g0 d u sc m xs hK0 hd hu hsc h63 hi F ρ0 tk R hk).1.2.2 } := by
  refine ⟨(?P5n, ?P5), ?A⟩
  case A =>
    have HM := mine_ok y g0 d u sc m xs hK0 hd hu hsc h63 hi F ρ0 tk R hk
    run_tac openHyp `HM
    have HR := right_ok y g0 d u sc m xs hK0 hd hu hsc h63 hi F ρ0 tk R hk
    run_tac openHyp `HR
    intro HN HH
    dsimp only at HN HH
    unfold C5n at HN
    unfold C5 at HH
    run_tac openLast
    intro ρr k1 k2 vk vr vi vf pa t1 t2 t3 t4 t5 t6 t7 t8 t9 v1 v2 ρ1 tk1 ρ2 ρ3 ρ4 tk4 tkw vt va wl g1 bl nb W ps hBase ⟨w0, hbl, hBest⟩ ρ5 tk5
    subst hbl
    have hK := hK0.mono hBase.le
    have zz_ := hBase.ab
    obtain ⟨aa, fab, hAb⟩ := zz_
    have hPok := hBase.wo.parOk
    have zz_ := hBase.pars
    obtain ⟨ws, nw, fw, hQ⟩ := zz_
    have zz_ := hBase.uni
    obtain ⟨us, nu, fu, hU⟩ := zz_
    have wo := ways_ok y 2
    unfold waysSpec at wo
    have n23 : (2 : Nat) ≤ 3 := by omega
    run_tac walkP []
    have leZ := hle
    refine cd_useN [8, 9, 10, 1] ?e (by decide) rfl (HM 1 (Nat.add tk1 (nat_lit 30)) _ _ _ _ _ _ pa ws nw ps (by omega) hK (by show d + 1 + 40 < _; omega) (by show u + 3 + 200 < _; omega) (leZ _ _ fw) (hQ.mono leZ) hBase.ne hBase.count) ?x
    case e => exact (takes.spec (T := _) (ks := [8, 9, 10, 1]) (by exact ⟨by kernel_rfl, by kernel_rfl, by kernel_rfl, by kernel_rfl, trivial⟩)).2
    rintro g2 ρ6 tk6 _ _ le2 ⟨rfl, p1, mvs, nv, _, _, _, _, _, _, _, _, _, _, _, rfl, hMi⟩
    run_tac onward
    have hK := hK.mono le2
    have hle1 := leZ.trans le2
    have fu2 := hle1 _ _ fu
    have fw2 := hle1 _ _ fw
    have fab2 := hle1 _ _ fab
    run_tac walkP [] [1009]
    have leA := hle
    have fml := ‹g (ρ5 (nat_lit 9)) = some (lstO mvs nv)›
    have hle2 := hle1.trans hle
    have hlm : (mineP 1 ps).length ≤ 4 := Nat.le_trans (List.length_filter_le ..) hBase.count
    refine cd_useN [11, 12, 13, 14, 2] ?e2 (by decide) rfl (HR W _ _ _ _ _ _ _ _ _ aa us mvs nu nv (mineP 1 ps) hK hPok (hAb.mono hle2) (hle _ _ fab2) (by show d + 1 + 80 < _; omega) (by show u + 3 + 500 < _; omega) (hle _ _ fu2) (hU.mono hle2) fml (hMi.mono hle) hlm) ?x2
    case e2 => exact (takes.spec (T := _) (ks := [11, 12, 13, 14, 2]) (by exact ⟨by kernel_rfl, by kernel_rfl, by kernel_rfl, by kernel_rfl, by kernel_rfl, trivial⟩)).2
    rintro g3 ρ7 tk7 _ _ le3 ⟨rfl, p1', vr', nr', xu, rfl, hRi⟩
    run_tac onward
    have hK := hK.mono le3
    have hle3 := hle2.trans le3
    have hBase3 := hBase.mono hle3
    have hBest3 := hBest.mono hle3
    have fml3 := le3 _ _ fml
    run_tac walkP []
    have hle4 := hle3.trans hle
    cases hm : mineP 1 ps with
    | nil =>
      rw [hm] at hMi
      cases hMi
      run_tac mkOut `P5n [0, 1, 2, 3, 4, 5, 6, 7, 12, 15, 16] []
      exact HN _ _ _ _ _ _ _ _ _ _ _ _ _ _ _ _ _ _ _ _ _ _ _ _ _ _ _ _ _ _ _ _ _ _ _ _ W ps (hBase.mono hle4) (hBest3.mono hle) hm ⟨_, hle _ _ fml3⟩ (hRi.mono hle)
    | cons p0 qs =>
      rw [hm] at hMi
      cases hMi with
      | @cons w1 mvs _ _ hm0 hMi =>
      have hx0 : (w1 :: mvs)[0]? = some w1 := rfl
      have leM := leA.trans (le3.trans hle)
      have hm0' := hm0.mono leM
      have hMi' := hMi.mono leM
      have fmlg := hle _ _ fml3
      cases hm0' with
      | @mk a0 ta ea j0 tt ee m1 m2 m3 m4 =>
      have mtr : tt.tr := m4.tr
      have mdp : tt.dep ≤ 2 := m4.2.2.1
      have ml1 : (bvs (tt.ways true)).length ≤ 100 := wlen mdp
      have leB := hle
      run_tac walkP [``next_item, ``next_end, ``list_add_ok]
      run_tac mkOut `P5 [0, 1, 2, 3, 4, 5, 6, 7, 12, 16] [.idx 16, .ent 0 8, .ent 0 11, .ent 0 12]
      exact HH _ _ _ _ _ _ _ _ _ _ _ _ _ _ _ _ _ _ _ _ _ _ _ _ _ _ _ _ _ _ _ _ _ _ _ _ _ _ _ _ W ps (hBase3.mono (leB.trans hle)) (hBest3.mono (leB.trans hle)) ⟨⟨_, _, [(j0, tt, ee)], mvs, qs, _, _, hle _ _ fmlg, rfl, by rw [hm]; rfl, hMi'.mono hle, rfl, by
        have : bvs ([(j0, tt, ee)].flatMap fun p : Par => p.2.1.ways true) = [] ++ bvs (tt.ways true) := by simp
        rw [this]; assumption⟩⟩ (hRi.mono (leB.trans hle))
end Mine

/-! W13 -/
namespace Mine
open PySem PySem.W PySem.W.X

abbrev T6 := (Nat → Nat) → Nat → Nat → Value → Value → Value → Value → Nat → Nat → Nat → Nat → Nat → Nat → Nat → Nat → Nat → Nat → Value → Value → (Nat → Nat) → Nat → (Nat → Addr) → (Nat → Addr) → Nat → Nat → Value → Value → Addr → (Nat → Nat) → (Nat → Addr) → (Nat → Addr) → Gm → Value → Value → Value → List Value → Nat → Prop
def C6 (g0 : Gm) (ρ0 : Nat → Addr) (P : T6) : Prop := ∀ ρr k1 k2 vk vr vi vf pa t1 t2 t3 t4 t5 t6 t7 t8 t9 v1 v2 ρ1 tk1 ρ3 ρ4 tk4 tkw vt0 va0 wl0 ρ5 ρ6 ρ7 g xt xw xa bl nb W ps, Base g0 g ρ0 W pa (ρ1 (nat_lit 40)) ps → (∃ b0 b1, bl = [b0, b1] ∧ BestOf g W 0 ps b0 ∧ BestOf g W 1 ps b1) → P ρr k1 k2 vk vr vi vf pa t1 t2 t3 t4 t5 t6 t7 t8 t9 v1 v2 ρ1 tk1 ρ3 ρ4 tk4 tkw vt0 va0 wl0 ρ5 ρ6 ρ7 g xt xw xa bl nb
noncomputable def lawG (y : Wd) (g0 : Gm) (d u sc m : Nat) (xs : List Value) (hK0 : KIn (tops y) g0) (hd : d + 300 < recursionLimit) (hu : u + 2500 < cLine) (hsc : g0 sc = some (lstO xs m)) (h63 : xs.length ≤ 63) (hi : AllI xs) (F : Frm) (ρ0 : Nat → Addr) (tk : Nat) (R : Result → Shared → Prop) (hk : F.k₀ = 0) :
    { P : T6 // C6 g0 ρ0 P → C5 g0 ρ0 (lawF y g0 d u sc m xs hK0 hd hu hsc h63 hi F ρ0 tk R hk).1.2 } := by
  refine ⟨?P4, ?A⟩
  case A =>
    intro HH
    unfold C6 at HH
    have HD := bestD_ok y g0 d u sc m xs hK0 hd hu hsc h63 hi F ρ0 tk R hk
    run_tac openHyp `HD
    have HU := bestU_ok y g0 d u sc m xs hK0 hd hu hsc h63 hi F ρ0 tk R hk
    run_tac openHyp `HU
    show C5 g0 ρ0 (lawF y g0 d u sc m xs hK0 hd hu hsc h63 hi F ρ0 tk R hk).1.2
    run_tac openLast
    intro ρr k1 k2 vk vr vi vf pa t1 t2 t3 t4 t5 t6 t7 t8 t9 v1 v2 ρ1 tk1 ρ3 ρ4 tk4 tkw vt0 va0 wl0 nb0 w0 ρ5 ρ6 ρ7 vr' nr' g1 i vt vw va W ps hBase hBest hL hR
    obtain ⟨⟨mvs, nv, done, vs2, rest, wl, nw, fml, hdr, hdn, hMi, rfl, fwl⟩⟩ := hL
    have wo := ways_ok y 2
    unfold waysSpec at wo
    have n23 : (2 : Nat) ≤ 3 := by omega
    induction rest generalizing g1 i vt va vs2 done wl nw with
    | cons p rest ih =>
      intro ρ5 tk5
      have hK := hK0.mono hBase.le
      cases hMi with
      | @cons w0 vs2 _ _ hm0 hMi =>
      have zz_ := drop_at hdr
      obtain ⟨hx0, hdr'⟩ := zz_
      have hok : ∀ q ∈ done, parOk q := fun q hq => by
        have zz_ := hBase.pars
        obtain ⟨ws, _, _, hQ⟩ := zz_
        exact hQ.ok q (List.mem_filter.mp (hdn ▸ List.mem_append_left _ hq : q ∈ mineP 1 ps)).1
      have hl0 : (bvs (done.flatMap fun p : Par => p.2.1.ways true)).length ≤ 100 := by
        have := ways_lens done hok
        have a := congrArg List.length hdn
        have b : (mineP 1 ps).length ≤ ps.length := List.length_filter_le ..
        have c := hBase.count
        simp only [List.length_append, List.length_cons] at a
        omega
      cases hm0 with
      | @mk a0 ta ea j0 tt ee m1 m2 m3 m4 =>
      have mtr : tt.tr := m4.tr
      have mdp : tt.dep ≤ 2 := m4.2.2.1
      have ml1 : (bvs (tt.ways true)).length ≤ 100 := wlen mdp
      run_tac walkP [``next_item, ``next_end, ``list_add_ok]
      run_tac mkLoop [0, 1, 2, 3, 4, 5, 6, 7, 8, 9] [.idx 9, .ent 0 8, .ent 0 11, .ent 0 12]
      exact ih _ _ _ _ (hBase.mono hle) (hBest.mono hle) (hR.mono hle) (done ++ [(j0, tt, ee)]) vs2 _ _ (hle _ _ fml) hdr' (by rw [← hdn]; simp) (hMi.mono hle) (by
        have : bvs ((done ++ [(j0, tt, ee)]).flatMap fun p : Par => p.2.1.ways true) = bvs (done.flatMap fun p : Par => p.2.1.ways true) ++ bvs (tt.ways true) := by simp [bvs]
        rw [this]; assumption)
    | nil =>
      intro ρ5 tk5
      cases hMi
      rw [List.append_nil] at hdn
      subst hdn
      have hx := drop_end hdr
      have hK := hK0.mono hBase.le
      have fwl : g1 wl = some (lstO (bvs (wysP 1 ps)) nw) := fwl
      have zz_ := hBase.ab
      obtain ⟨aa, fab, hAb⟩ := zz_
      have hPok := hBase.wo.parOk
      have hall : ∀ q ∈ ps, parOk q := by obtain ⟨ws, _, _, hQ⟩ := hBase.pars; exact hQ.ok
      cases hr : rightP W 1 ps with
      | nil =>
        rw [hr] at hR
        cases hR
        run_tac walkP [``next_item, ``next_end]
        run_tac mkOut `P4 [0, 1, 2, 3, 4, 5, 6, 7] [.ent 0 8, .ent 0 11, .ent 0 12, .lst 5]
        exact HH _ _ _ _ _ _ _ _ _ _ _ _ _ _ _ _ _ _ _ _ _ ρ3 ρ4 _ _ vt0 va0 wl0 _ _ _ _ _ _ _ _ _ W ps (hBase.mono hle) ⟨_, _, rfl, hBest.mono hle, .inl ⟨rfl, hr⟩⟩
      | cons r0 rs =>
        have hrne : rightP W 1 ps ≠ [] := by rw [hr]; simp
        have zz_ := right_best hPok hall 1 hrne
        obtain ⟨tb, hb1, hb2, hb3, hb4, hb5, hb6⟩ := zz_
        have hrn9 : (rightP W 1 ps).length ≤ 9 := List.length_filter_le ..
        have hrl : vr'.length ≤ 100 := by
          have a := hR.len
          have b : (rightP W 1 ps).length ≤ univ.length := List.length_filter_le ..
          simp only [univ, List.length_cons, List.length_nil] at b
          omega
        have hRu : ∀ t ∈ rightP W 1 ps, t.uni := fun t ht => univ_uni t (List.mem_filter.mp ht).1
        have hR0 := hR
        rw [hr] at hR
        cases hR with
        | @cons ar vr2 _ _ hr0 hR2 =>
        have hrl2 : vr2.length ≤ 100000 := by simp only [List.length_cons] at hrl; omega
        cases hw : wysP 1 ps with
        | nil =>
          rw [hw] at fwl
          have fwl : g1 wl = some (lstO [] nw) := fwl
          run_tac walkP [``next_item, ``next_end, ``list_len_cons] [5]
          run_tac mkLoop [0, 1, 2, 3, 4, 5, 6, 7] [.ent 0 8, .ent 0 11, .ent 0 12, .lst 5]
          exact HH _ _ _ _ _ _ _ _ _ _ _ _ _ _ _ _ _ _ _ _ _ ρ3 ρ4 _ _ vt0 va0 wl0 _ _ _ _ _ _ _ _ _ W ps (hBase.mono hle) ⟨_, _, rfl, hBest.mono hle, .inr ⟨_, .leaf 9, rfl, .leaf (by assumption), hrne, by rw [hb1, hb4 hw]⟩⟩
        | cons b bs =>
          rw [hw] at fwl
          have fwl' : g1 wl = some (lstO (.bool b :: bvs bs) nw) := fwl
          have hbl : (bvs bs).length ≤ 100000 := by
            have a := ways_lens (mineP 1 ps) fun q hq => hall q (List.mem_filter.mp hq).1
            have a' : (bvs (wysP 1 ps)).length ≤ 4 * (mineP 1 ps).length := a
            rw [hw] at a'
            have c := hBase.count
            have d' : (mineP 1 ps).length ≤ ps.length := List.length_filter_le ..
            simp only [bvs, List.length_map, List.length_cons] at a' ⊢
            omega
          cases ha : (b :: bs).any id with
          | true =>
            run_tac walkP [``next_item, ``next_end, ``list_len_cons, ``any_yes] [1008]
            have leA := hle
            have frl := ‹g (ρ6 (nat_lit 12)) = some (lstO (.ref ar :: vr2) _)›
            refine cd_useN [10, 11, 12, 13, 3] ?e1 (by decide) rfl (HD W _ _ _ _ _ _ _ _ aa (.ref ar :: vr2) _ (rightP W 1 ps) hK hPok (hAb.mono leA) (leA _ _ fab) (by show d + 1 + 80 < _; omega) (by show u + 3 + 500 < _; omega) frl (hR0.mono leA) hrne hrn9 hRu) ?x1
            case e1 => exact (takes.spec (T := _) (ks := [10, 11, 12, 13, 3]) (by exact ⟨by kernel_rfl, by kernel_rfl, by kernel_rfl, by kernel_rfl, by kernel_rfl, trivial⟩)).2
            rintro g3 ρ6 tk6 _ _ le3 ⟨rfl, p1', vb', nb', xu, rfl, hBi⟩
            have zz_ := hb5 (by rw [hw]; exact ha)
            obtain ⟨rr, hrr⟩ := zz_
            simp only [if_true, if_false, Bool.false_eq_true] at hBi
            rw [hrr] at hBi
            cases hBi with
            | @cons ab_ vb2 _ _ hbt hBi =>
            run_tac onward
            have hK := hK.mono le3
            run_tac walkP [``list_append_ok] [5]
            run_tac mkLoop [0, 1, 2, 3, 4, 5, 6, 7] [.ent 0 8, .ent 0 11, .ent 0 12, .lst 5]
            exact HH _ _ _ _ _ _ _ _ _ _ _ _ _ _ _ _ _ _ _ _ _ ρ3 ρ4 _ _ vt0 va0 wl0 _ _ _ _ _ _ _ _ _ W ps (hBase.mono (leA.trans (le3.trans hle))) ⟨_, _, rfl, hBest.mono (leA.trans (le3.trans hle)), .inr ⟨_, tb, rfl, hbt.mono hle, hrne, hb1⟩⟩
          | false =>
            run_tac walkP [``next_item, ``next_end, ``list_len_cons, ``any_no] [1008]
            have leA := hle
            have frl := ‹g (ρ6 (nat_lit 12)) = some (lstO (.ref ar :: vr2) _)›
            refine cd_useN [10, 11, 12, 13, 3] ?e2 (by decide) rfl (HU W _ _ _ _ _ _ _ _ aa (.ref ar :: vr2) _ (rightP W 1 ps) hK hPok (hAb.mono leA) (leA _ _ fab) (by show d + 1 + 80 < _; omega) (by show u + 3 + 500 < _; omega) frl (hR0.mono leA) hrne hrn9 hRu) ?x2
            case e2 => exact (takes.spec (T := _) (ks := [10, 11, 12, 13, 3]) (by exact ⟨by kernel_rfl, by kernel_rfl, by kernel_rfl, by kernel_rfl, by kernel_rfl, trivial⟩)).2
            rintro g3 ρ6 tk6 _ _ le3 ⟨rfl, p1', vb', nb', xu, rfl, hBi⟩
            have zz_ := hb6 (by rw [hw]; simp) (by rw [hw]; exact ha)
            obtain ⟨rr, hrr⟩ := zz_
            simp only [if_true, if_false, Bool.false_eq_true] at hBi
            rw [hrr] at hBi
            cases hBi with
            | @cons ab_ vb2 _ _ hbt hBi =>
            run_tac onward
            have hK := hK.mono le3
            run_tac walkP [``list_append_ok] [5]
            run_tac mkLoop [0, 1, 2, 3, 4, 5, 6, 7] [.ent 0 8, .ent 0 11, .ent 0 12, .lst 5]
            exact HH _ _ _ _ _ _ _ _ _ _ _ _ _ _ _ _ _ _ _ _ _ ρ3 ρ4 _ _ vt0 va0 wl0 _ _ _ _ _ _ _ _ _ W ps (hBase.mono (leA.trans (le3.trans hle))) ⟨_, _, rfl, hBest.mono (leA.trans (le3.trans hle)), .inr ⟨_, tb, rfl, hbt.mono hle, hrne, hb1⟩⟩
end Mine

/-! W14 -/
namespace Mine
open PySem PySem.W PySem.W.X

theorem lawGn (y : Wd) (g0 : Gm) (d u sc m : Nat) (xs : List Value) (hK0 : KIn (tops y) g0) (hd : d + 300 < recursionLimit) (hu : u + 2500 < cLine) (hsc : g0 sc = some (lstO xs m)) (h63 : xs.length ≤ 63) (hi : AllI xs) (F : Frm) (ρ0 : Nat → Addr) (tk : Nat) (R : Result → Shared → Prop) (hk : F.k₀ = 0) (HH : C6 g0 ρ0 (lawG y g0 d u sc m xs hK0 hd hu hsc h63 hi F ρ0 tk R hk).1) : C5n g0 ρ0 (lawF y g0 d u sc m xs hK0 hd hu hsc h63 hi F ρ0 tk R hk).1.1 := by
  run_tac openHyp `HH
  show C5n g0 ρ0 (lawF y g0 d u sc m xs hK0 hd hu hsc h63 hi F ρ0 tk R hk).1.1
  run_tac openLast
  intro ρr k1 k2 vk vr vi vf pa t1 t2 t3 t4 t5 t6 t7 t8 t9 v1 v2 ρ1 tk1 ρ3 ρ4 tk4 tkw vt va wl nb w0 ρ5 ρ6 ρ7 vr' nr' g1 W ps hBase hBest hm ⟨nv, fml⟩ hR ρ8 tk8
  have hK := hK0.mono hBase.le
  have hPok := hBase.wo.parOk
  have hall : ∀ q ∈ ps, parOk q := by obtain ⟨ws, _, _, hQ⟩ := hBase.pars; exact hQ.ok
  have hr : rightP W 1 ps = univ := by rw [rightP, hm]; simp
  have hrne : rightP W 1 ps ≠ [] := by rw [hr]; simp [univ]
  have hw : wysP 1 ps = [] := by rw [wysP, hm]; rfl
  have zz_ := right_best hPok hall 1 hrne
  obtain ⟨tb, hb1, hb2, hb3, hb4, _, _⟩ := zz_
  have hrl : vr'.length ≤ 100 := by
    have a := hR.len
    have b : (rightP W 1 ps).length ≤ univ.length := List.length_filter_le ..
    simp only [univ, List.length_cons, List.length_nil] at b
    omega
  generalize hu0 : rightP W 1 ps = un at hR
  cases hR with
  | nil => exact absurd hu0 hrne
  | @cons ar vr2 _ _ hr0 hR2 =>
  have hrl2 : vr2.length ≤ 100000 := by simp only [List.length_cons] at hrl; omega
  run_tac walkP [``list_len_cons] [5]
  run_tac mkLoop [0, 1, 2, 3, 4, 5, 6, 7] [.ent 0 8, .ent 0 11, .ent 0 12, .lst 5]
  exact HH _ _ _ _ _ _ _ _ _ _ _ _ _ _ _ _ _ _ v2 _ _ ρ3 ρ4 _ _ vt va wl ρ5 ρ6 ρ7 _ _ _ _ _ _ W ps (hBase.mono hle) ⟨_, _, rfl, hBest.mono hle, .inr ⟨_, .leaf 9, rfl, .leaf (by assumption), hrne, by rw [hb1, hb4 hw]⟩⟩
end Mine

/-! Teq -/
namespace Mine
open PySem PySem.W PySem.W.X
theorem teq_leaf (y : Wd) (c : Nat) (g0 : Gm) (d u : Nat) (a b : Addr) (hK0 : KIn (tops y) g0) (hd : d + 9 < recursionLimit) (hu : u + 60 < cLine) (ha : PTIs g0 a (.leaf c)) (hb : PTIs g0 b (.leaf c)) :
    Pu (cx y) g0 d u (.call (.builtin "tuple.__eq__") ⟨[.ref a, .ref b], []⟩) (fun g' r => r = .ok (.ret (.bool true))) := by
  cases ha with | leaf f1 =>
  cases hb with | leaf f2 =>
  refine pu_of fun F ρ tk R hk K => ?_
  run_tac walk
  all_goals exact K _ _ _ _ _ hle rfl
theorem PTIs.tupF {g : Gm} {a : Addr} {t : PT} (h : PTIs g a t) : ∃ vs, g a = some (tupO vs) := by
  cases h with
  | leaf e => exact ⟨_, e⟩
  | un e _ => exact ⟨_, e⟩
  | two e _ _ => exact ⟨_, e⟩
theorem teq_box (y : Wd) (c k : Nat) (g0 : Gm) (d u : Nat) (a b : Addr) (hK0 : KIn (tops y) g0) (hd : d + 18 < recursionLimit) (hu : u + 120 < cLine) (ha : PTIs g0 a (.un c (.leaf k))) (hb : PTIs g0 b (.un c (.leaf k))) :
    Pu (cx y) g0 d u (.call (.builtin "tuple.__eq__") ⟨[.ref a, .ref b], []⟩) (fun g' r => r = .ok (.ret (.bool true))) := by
  cases ha with | un f1 p1 =>
  cases hb with | un f2 p2 =>
  have zz_ := p1.tupF
  obtain ⟨_, e1⟩ := zz_
  have zz_ := p2.tupF
  obtain ⟨_, e2⟩ := zz_
  refine pu_of fun F ρ tk R hk K => ?_
  run_tac walk [``teq_leaf]
  all_goals exact K _ _ _ _ _ hle rfl
/-- a pair's tuple and one made of two others that say the same -/
theorem teq_two (y : Wd) (s t : PT) (g0 : Gm) (d u : Nat) (a b x z k : Nat) (hK0 : KIn (tops y) g0) (hb : g0 b = some (tupO [.int 6 k, .ref x, .ref z])) (ha : PTIs g0 a (.two s t)) (hx : PTIs g0 x s) (hz : PTIs g0 z t)
   (hs : (∃ c, s = .leaf c) ∨ ∃ c k, s = .un c (.leaf k)) (ht : (∃ c, t = .leaf c) ∨ ∃ c k, t = .un c (.leaf k)) (hd : d + 27 < recursionLimit) (hu : u + 180 < cLine) :
    Pu (cx y) g0 d u (.call (.builtin "tuple.__eq__") ⟨[.ref a, .ref b], []⟩) (fun g' r => r = .ok (.ret (.bool true))) := by
  cases ha with | two f1 p1 p2 =>
  have zz_ := p1.tupF
  obtain ⟨_, e1⟩ := zz_
  have zz_ := p2.tupF
  obtain ⟨_, e2⟩ := zz_
  have zz_ := hx.tupF
  obtain ⟨_, e3⟩ := zz_
  have zz_ := hz.tupF
  obtain ⟨_, e4⟩ := zz_
  rcases hs with ⟨c, rfl⟩ | ⟨c, k, rfl⟩ <;> rcases ht with ⟨c', rfl⟩ | ⟨c', k', rfl⟩
  all_goals
    refine pu_of fun F ρ tk R hk K => ?_
    run_tac walk [``teq_leaf, ``teq_box]
    all_goals exact K _ _ _ _ _ hle rfl
end Mine

/-! W15 -/
namespace Mine
open PySem PySem.W PySem.W.X

theorem PT.filU_fil : ∀ {t a : PT} {up : Bool}, t.filU a up → t.fil a
  | .leaf c, a, up, h => by
    have h' : (if c < 7 then ∃ k, k < 4 ∧ a = .leaf k else if up = true then a.simp else ∃ k, k < 4 ∧ a = .leaf k) := by cases a <;> exact h
    have : (if c < 7 then ∃ k, k < 4 ∧ a = .leaf k else a.simp) := by
      by_cases q : c < 7
      · rw [if_pos q] at h' ⊢; exact h'
      · rw [if_neg q] at h' ⊢
        cases up
        · obtain ⟨k, k4, rfl⟩ := h'; exact k4
        · exact h'
    cases a <;> exact this
  | .un c t, .leaf _, up, h => h.elim
  | .un c t, .two _ _, up, h => h.elim
  | .un c t, .un k a, up, h => ⟨h.1, PT.filU_fil h.2⟩
  | .two t u, .leaf _, up, h => h.elim
  | .two t u, .un _ _, up, h => h.elim
  | .two t u, .two a b, up, h => ⟨PT.filU_fil h.1, PT.filU_fil h.2⟩
theorem PT.simp_tr {t : PT} (h : t.simp) : t.tr := by
  have zz_ := t.simp_cases h
  rcases zz_ with ⟨k, h', rfl⟩ | ⟨k, h', rfl⟩
  · exact .inl h'
  · exact ⟨.inl rfl, .inl h'⟩
theorem PT.fil_tr : ∀ {t a : PT}, t.tr → t.fil a → a.tr
  | .leaf c, a, ht, h => by
    have h' : (if c < 7 then ∃ k, k < 4 ∧ a = .leaf k else a.simp) := by cases a <;> exact h
    by_cases q : c < 7
    · rw [if_pos q] at h'; obtain ⟨k, k4, rfl⟩ := h'; exact .inl k4
    · rw [if_neg q] at h'; exact PT.simp_tr h'
  | .un c t, .leaf _, ht, h => h.elim
  | .un c t, .two _ _, ht, h => h.elim
  | .un c t, .un k a, ht, h => ⟨h.1 ▸ ht.1, PT.fil_tr ht.2 h.2⟩
  | .two t u, .leaf _, ht, h => h.elim
  | .two t u, .un _ _, ht, h => h.elim
  | .two t u, .two a b, ht, h => ⟨PT.fil_tr ht.1 h.1, PT.fil_tr ht.2 h.2⟩
theorem PT.tvl_len : ∀ (t : PT), t.tvl.length ≤ t.wsz
  | .leaf c => by unfold PT.tvl; split <;> simp [PT.wsz]
  | .un c t => PT.tvl_len t
  | .two t u => by
    have := PT.tvl_len t
    have := PT.tvl_len u
    simp only [PT.tvl, PT.wsz, List.length_append]; omega
/-- what a parameter's tree and argument give the contracts -/
theorem parOk.all {p : Par} (h : parOk p) : p.2.1.tr ∧ p.2.1.dep ≤ 2 ∧ p.2.2.tr ∧ p.2.2.ty ∧ p.2.2.dep ≤ 3 ∧ p.2.1.fil p.2.2 ∧ p.2.1.tvl.length ≤ 4 := by
  have t := h.tr
  have f := PT.filU_fil h.2.2.2
  have a := PT.filU_ty t h.2.2.2
  have d := h.2.2.1
  exact ⟨t, d, PT.fil_tr t f, a.1, by have := a.2; omega, f, Nat.le_trans (PT.tvl_len _) (PT.wsz_dep _ 2 d)⟩
theorem allC_app (ps : List Par) (p : Par) : allC (ps ++ [p]) = allC ps ++ consP p := by simp [allC]
/-- whether both bests stand -/
def fitV (v0 v1 : Value) : Bool := match v0, v1 with | .ref _, .ref _ => true | _, _ => false
structure LoopT (g : Gm) (W : Wo) (pa i : Nat) (vw vt va vd : Value) (ps : List Par) : Prop where
  ex : ∃ ws nw done ws2 rest tl vs nt, g pa = some (lstO ws nw) ∧ ws.drop i = ws2 ∧ done ++ rest = ps ∧ ParsAre g ws2 rest ∧ vd = .ref tl ∧ g tl = some (lstO vs nt) ∧ CosAre g W vs (allC done) ∧ (∃ a b, vw = .int a b) ∧ (∃ a, vt = .ref a) ∧ (∃ a, va = .ref a)
theorem consP_len {p : Par} (h : parOk p) : (consP p).length ≤ 4 := by
  have a := congrArg List.length (cons_ways p.2.1 p.2.2 true h.tr h.2.2.2)
  rw [List.length_map] at a
  have b := PT.ways_len p.2.1 true
  have c := PT.wsz_dep p.2.1 2 h.2.2.1
  unfold consP
  omega
theorem allC_len : ∀ (ps : List Par), (∀ p ∈ ps, parOk p) → (allC ps).length ≤ 4 * ps.length
  | [], _ => by simp [allC]
  | p :: ps, h => by
    have a := consP_len (h p (List.mem_cons_self ..))
    have b := allC_len ps fun q hq => h q (List.mem_cons_of_mem _ hq)
    have e : allC (p :: ps) = consP p ++ allC ps := by simp [allC]
    rw [e, List.length_append, List.length_cons]; omega
theorem exp_uni {p : Par} (h : parOk p) {t0 t1 : PT} (u0 : t0.uni) (u1 : t1.uni) : (p.2.1.exp (pick2 t0 t1)).ty ∧ (p.2.1.exp (pick2 t0 t1)).dep ≤ 3 := by
  rw [exp_put h.1 t0 t1 p.2.1 h.2.1]
  have hu : (pick2 t0 t1 p.1).uni := by
    have : p.1 = 0 ∨ p.1 = 1 := by have := h.1; omega
    rcases this with e | e
    · rw [e]; exact u0
    · rw [e]; exact u1
  have a := PT.put_ty h.tr (PT.uni_ty hu).1
  exact ⟨a.1, by have := a.2; have := (PT.uni_ty hu).2; have := h.2.2.1; omega⟩
theorem sol_uni {W : Wo} (h : ParOk W) {ps : List Par} (hp : ∀ p ∈ ps, parOk p) (j : Nat) {t : PT} (e : sol W (sel j (allC ps)) = some t) : t.uni :=
  ((h.solve_spec (L := sel j (allC ps)) fun c q => allC_ok h hp c (List.mem_filter.mp q).1).1 t e).mem
theorem BestOf.no {g : Gm} {W : Wo} {j : Nat} {ps : List Par} {v : Value} (h : BestOf g W j ps v) (e : rightP W j ps = []) : v = .none := by
  rcases h with ⟨h, _⟩ | ⟨_, _, _, _, h, _⟩
  · exact h
  · exact absurd e h
theorem bests {g : Gm} {W : Wo} {ps : List Par} {v0 v1 : Value} (h0 : BestOf g W 0 ps v0) (h1 : BestOf g W 1 ps v1) :
    (fitV v0 v1 = false ∧ (rightP W 0 ps = [] ∨ rightP W 1 ps = [])) ∨ ∃ a0 t0 a1 t1, v0 = .ref a0 ∧ v1 = .ref a1 ∧ PTIs g a0 t0 ∧ PTIs g a1 t1 ∧ rightP W 0 ps ≠ [] ∧ rightP W 1 ps ≠ [] ∧ sol W (sel 0 (allC ps)) = some t0 ∧ sol W (sel 1 (allC ps)) = some t1 := by
  rcases h0 with ⟨rfl, e0⟩ | ⟨a0, t0, rfl, p0, n0, s0⟩
  · exact .inl ⟨rfl, .inl e0⟩
  · rcases h1 with ⟨rfl, e1⟩ | ⟨a1, t1, rfl, p1, n1, s1⟩
    · exact .inl ⟨rfl, .inr e1⟩
    · exact .inr ⟨a0, t0, a1, t1, rfl, rfl, p0, p1, n0, n1, s0, s1⟩
section
variable (y : Wd) (W : Wo) (g0 : Gm) (d u : Nat) (vl q cl p : Nat) (vs : List Value) (cs : List Con) (hK0 : KIn (tops y) g0) (hW : WoIs g0 W) (hd : d + 170 < recursionLimit) (hu : u + 1300 < cLine)
    (hv : g0 vl = some (lstO [.ref (W.V 0), .ref (W.V 1)] q)) (hc : g0 cl = some (lstO vs p)) (hcs : CosAre g0 W vs cs) (h40 : vs.length ≤ 40) (hz : ∀ c ∈ cs, c.2.1 = false → c.2.2.dep ≤ 0)
include hK0 hW hd hu hv hc hcs h40 hz
theorem sc_none0 (h0 : sol W (sel 0 cs) = none) :
    Pu (cx y) g0 d u (.call (.ref 990) ⟨[.ref vl, .ref cl], []⟩) (fun g' r => ∃ c n v1, r = .ok (.ret (.ref c)) ∧ g' c = some (lstO [.none, v1] n)) := by
  refine (sc_ok y W g0 d u vl q cl p vs cs hK0 hW hd hu hv hc hcs h40 hz).mono ?_
  rintro g' r _ ⟨c, n, v0, v1, e1, e2, o0, _, _, _⟩
  rw [h0] at o0
  have o0 : v0 = .none := o0
  subst o0
  exact ⟨c, n, v1, e1, e2⟩
theorem sc_none1 {t0 : PT} (h0 : sol W (sel 0 cs) = some t0) (h1 : sol W (sel 1 cs) = none) :
    Pu (cx y) g0 d u (.call (.ref 990) ⟨[.ref vl, .ref cl], []⟩) (fun g' r => ∃ c n c0, r = .ok (.ret (.ref c)) ∧ g' c = some (lstO [.ref c0, .none] n)) := by
  refine (sc_ok y W g0 d u vl q cl p vs cs hK0 hW hd hu hv hc hcs h40 hz).mono ?_
  rintro g' r _ ⟨c, n, v0, v1, e1, e2, o0, o1, _, _⟩
  rw [h0] at o0
  rw [h1] at o1
  have o1 : v1 = .none := o1
  obtain ⟨c0, rfl, _⟩ : ∃ a, v0 = .ref a ∧ TyIs g' W a t0 := o0
  subst o1
  exact ⟨c, n, c0, e1, e2⟩
theorem sc_some {t0 t1 : PT} (h0 : sol W (sel 0 cs) = some t0) (h1 : sol W (sel 1 cs) = some t1) :
    Pu (cx y) g0 d u (.call (.ref 990) ⟨[.ref vl, .ref cl], []⟩) (fun g' r => ∃ c n c0 c1, r = .ok (.ret (.ref c)) ∧ g' c = some (lstO [.ref c0, .ref c1] n) ∧ TyIs g' W c0 t0 ∧ TyIs g' W c1 t1) := by
  refine (sc_ok y W g0 d u vl q cl p vs cs hK0 hW hd hu hv hc hcs h40 hz).mono ?_
  rintro g' r _ ⟨c, n, v0, v1, e1, e2, o0, o1, _, _⟩
  rw [h0] at o0
  rw [h1] at o1
  obtain ⟨c0, rfl, z0⟩ : ∃ a, v0 = .ref a ∧ TyIs g' W a t0 := o0
  obtain ⟨c1, rfl, z1⟩ : ∃ a, v1 = .ref a ∧ TyIs g' W a t1 := o1
  exact ⟨c, n, c0, c1, e1, e2, z0, z1⟩
end
theorem mkPair_ok (y : Wd) (W : Wo) (g0 : Gm) (d u : Nat) (l m : Nat) (hK0 : KIn (tops y) g0) (hW : WoIs g0 W) (hd : d + 9 < recursionLimit) (hu : u + 60 < cLine) (hl : g0 l = some (lstO [.ref (W.V 0), .ref (W.V 1)] m)) :
    Pu (cx y) g0 d u (.call (.ref 366) ⟨[.ref (W.I 6), .ref l], []⟩) (fun g' r => ∃ a, r = .ok (.ret (.ref a)) ∧ TyIs g' W a (.two (.leaf 7) (.leaf 8))) := by
  refine (mk2_ok y W g0 d u 6 l m _ _ (by omega) hK0 hW hd hu hl).mono ?_
  rintro g' r _ ⟨a, d', tp, h1, t1, h2, t2, n, e1, e2, e3, e4⟩
  exact ⟨a, e1, .two e2 e3 e4 (.var (by omega) rfl) (.var (by omega) rfl)⟩
theorem expPair_ok (y : Wd) (W : Wo) (t0 t1 : PT) (g0 : Gm) (a e c0 c1 m : Nat) (d u : Nat) (hK0 : KIn (tops y) g0) (hW : WoIs g0 W) (hd : d + 70 < recursionLimit) (hu : u + 450 < cLine) (ha : TyIs g0 W a (.two (.leaf 7) (.leaf 8)))
    (he : g0 e = some (dct [⟨1, .ref (W.vi 0), .ref c0⟩, ⟨2, .ref (W.vi 1), .ref c1⟩] m)) (h0 : TyIs g0 W c0 t0) (h1 : TyIs g0 W c1 t1) :
    Pu (cx y) g0 d u (.call (.ref 568) ⟨[.ref a, .ref e], []⟩) (fun g' r => ∃ c, r = .ok (.ret (.ref c)) ∧ TyIs g' W c (.two t0 t1)) :=
  expand_ok y W (.two (.leaf 7) (.leaf 8)) t0 t1 g0 a e c0 c1 m d u ⟨.inr (.inl rfl), .inr (.inr rfl)⟩ (by simp [PT.dep]) hK0 hW hd hu ha he h0 h1
theorem allT_ok (y : Wd) (g0 : Gm) (d u : Nat) (l : Addr) (bs : List Bool) (m : Nat) (hK0 : KIn (tops y) g0) (hd : d + 12 < recursionLimit) (hu : u + 90 < cLine) (hl : g0 l = some (lstO (bvs bs) m)) (h : bs.all id = true) :
    Pu (cx y) g0 d u (.call (.builtin "all") ⟨[.ref l], []⟩) (fun g' r => r = .ok (.ret (.bool true))) := by
  refine (all_ok y g0 d u l bs m hK0 hd hu hl).mono ?_
  rintro g' r _ ⟨bl, e, e'⟩
  rw [e, e', h]
theorem allF_ok (y : Wd) (g0 : Gm) (d u : Nat) (l : Addr) (bs : List Bool) (m : Nat) (hK0 : KIn (tops y) g0) (hd : d + 12 < recursionLimit) (hu : u + 90 < cLine) (hl : g0 l = some (lstO (bvs bs) m)) (h : bs.all id = false) :
    Pu (cx y) g0 d u (.call (.builtin "all") ⟨[.ref l], []⟩) (fun g' r => r = .ok (.ret (.bool false))) := by
  refine (all_ok y g0 d u l bs m hK0 hd hu hl).mono ?_
  rintro g' r _ ⟨bl, e, e'⟩
  rw [e, e', h]
abbrev T7 := (Nat → Nat) → Nat → Nat → Value → Value → Value → Value → Nat → Nat → Nat → Nat → Nat → Nat → Nat → Nat → Nat → Nat → Value → Value → (Nat → Nat) → Nat → (Nat → Addr) → (Nat → Addr) → Nat → Nat → Value → Value → Addr → (Nat → Nat) → (Nat → Addr) → (Nat → Addr) → Value → Value → Value → (Nat → Nat) → Nat → Gm → Value → List Value → Nat → Prop
def C7 (g0 : Gm) (ρ0 : Nat → Addr) (P : T7) : Prop := ∀ ρr k1 k2 vk vr vi vf pa t1 t2 t3 t4 t5 t6 t7 t8 t9 v1 v2 ρ1 tk1 ρ3 ρ4 tk4 tkw vt0 va0 wl0 ρ5 ρ6 ρ7 xt xw xa ρ8 tk8 g xf bl nb W ps, Base g0 g ρ0 W pa (ρ1 (nat_lit 40)) ps → (∃ b0 b1, bl = [b0, b1] ∧ xf = .bool (fitV b0 b1) ∧ BestOf g W 0 ps b0 ∧ BestOf g W 1 ps b1) → P ρr k1 k2 vk vr vi vf pa t1 t2 t3 t4 t5 t6 t7 t8 t9 v1 v2 ρ1 tk1 ρ3 ρ4 tk4 tkw vt0 va0 wl0 ρ5 ρ6 ρ7 xt xw xa ρ8 tk8 g xf bl nb
noncomputable def lawH (y : Wd) (g0 : Gm) (d u sc m : Nat) (xs : List Value) (hK0 : KIn (tops y) g0) (hd : d + 300 < recursionLimit) (hu : u + 2500 < cLine) (hsc : g0 sc = some (lstO xs m)) (h63 : xs.length ≤ 63) (hi : AllI xs) (F : Frm) (ρ0 : Nat → Addr) (tk : Nat) (R : Result → Shared → Prop) (hk : F.k₀ = 0) :
    { P : T7 // C7 g0 ρ0 P → C6 g0 ρ0 (lawG y g0 d u sc m xs hK0 hd hu hsc h63 hi F ρ0 tk R hk).1 } := by
  refine ⟨?P7, ?A⟩
  case A =>
    intro HH
    unfold C7 at HH
    show C6 g0 ρ0 (lawG y g0 d u sc m xs hK0 hd hu hsc h63 hi F ρ0 tk R hk).1
    run_tac openLast
    intro ρr k1 k2 vk vr vi vf pa t1 t2 t3 t4 t5 t6 t7 t8 t9 v1 v2 ρ1 tk1 ρ3 ρ4 tk4 tkw vt0 va0 wl0 ρ5 ρ6 ρ7 g1 xt xw xa bl nb W ps hBase ⟨b0, b1, hbl, hB0, hB1⟩ ρ8 tk8
    subst hbl
    have hK := hK0.mono hBase.le
    have zz_ := hBase.pars
    obtain ⟨ws, nw, fw, hQ⟩ := zz_
    have hB0' := hB0
    have hB1' := hB1
    rcases hB0 with ⟨rfl, hn0⟩ | ⟨a0, c0, rfl, hp0, hr0, hs0⟩ <;> rcases hB1 with ⟨rfl, hn1⟩ | ⟨a1, c1, rfl, hp1, hr1, hs1⟩
    all_goals run_tac walkP []
    · run_tac mkOut `P7 [0, 1, 2, 3, 4, 5, 10, 11] [.ent 0 13, .lst 5]
      exact HH _ _ _ _ _ _ _ _ _ _ _ _ _ _ _ _ _ _ v2 _ _ ρ3 ρ4 tk4 tkw vt0 va0 wl0 ρ5 ρ6 ρ7 _ _ _ _ _ _ _ _ _ W ps (hBase.mono hle) ⟨_, _, rfl, rfl, hB0'.mono hle, hB1'.mono hle⟩
    · run_tac mkLoop [0, 1, 2, 3, 4, 5, 10, 11] [.ent 0 13, .lst 5]
      exact HH _ _ _ _ _ _ _ _ _ _ _ _ _ _ _ _ _ _ v2 _ _ ρ3 ρ4 tk4 tkw vt0 va0 wl0 ρ5 ρ6 ρ7 _ _ _ _ _ _ _ _ _ W ps (hBase.mono hle) ⟨_, _, rfl, rfl, hB0'.mono hle, hB1'.mono hle⟩
    · run_tac mkLoop [0, 1, 2, 3, 4, 5, 10, 11] [.ent 0 13, .lst 5]
      exact HH _ _ _ _ _ _ _ _ _ _ _ _ _ _ _ _ _ _ v2 _ _ ρ3 ρ4 tk4 tkw vt0 va0 wl0 ρ5 ρ6 ρ7 _ _ _ _ _ _ _ _ _ W ps (hBase.mono hle) ⟨_, _, rfl, rfl, hB0'.mono hle, hB1'.mono hle⟩
    · run_tac mkLoop [0, 1, 2, 3, 4, 5, 10, 11] [.ent 0 13, .lst 5]
      exact HH _ _ _ _ _ _ _ _ _ _ _ _ _ _ _ _ _ _ v2 _ _ ρ3 ρ4 tk4 tkw vt0 va0 wl0 ρ5 ρ6 ρ7 _ _ _ _ _ _ _ _ _ W ps (hBase.mono hle) ⟨_, _, rfl, rfl, hB0'.mono hle, hB1'.mono hle⟩
end Mine

/-! W16 -/
namespace Mine
open PySem PySem.W PySem.W.X

theorem lawFn (y : Wd) (g0 : Gm) (d u sc m : Nat) (xs : List Value) (hK0 : KIn (tops y) g0) (hd : d + 300 < recursionLimit) (hu : u + 2500 < cLine) (hsc : g0 sc = some (lstO xs m)) (h63 : xs.length ≤ 63) (hi : AllI xs) (F : Frm) (ρ0 : Nat → Addr) (tk : Nat) (R : Result → Shared → Prop) (hk : F.k₀ = 0) (HH : C5 g0 ρ0 (lawF y g0 d u sc m xs hK0 hd hu hsc h63 hi F ρ0 tk R hk).1.2) : C4n g0 ρ0 (lawEn y g0 d u sc m xs hK0 hd hu hsc h63 hi F ρ0 tk R hk).1 := by
    have HM := mine_ok y g0 d u sc m xs hK0 hd hu hsc h63 hi F ρ0 tk R hk
    run_tac openHyp `HM
    have HR := right_ok y g0 d u sc m xs hK0 hd hu hsc h63 hi F ρ0 tk R hk
    run_tac openHyp `HR
    run_tac openHyp `HH
    show C4n g0 ρ0 (lawEn y g0 d u sc m xs hK0 hd hu hsc h63 hi F ρ0 tk R hk).1
    run_tac openLast
    intro ρr k1 k2 vk vr vi vf pa t1 t2 t3 t4 t5 t6 t7 t8 t9 v1 v2 ρ1 tk1 ρ2 ρ3 ρ4 tk4 g1 bl nb W ps hBase hm0 ⟨w0, hbl, hBest⟩ ρ5 tk5
    subst hbl
    have hK := hK0.mono hBase.le
    have zz_ := hBase.ab
    obtain ⟨aa, fab, hAb⟩ := zz_
    have hPok := hBase.wo.parOk
    have zz_ := hBase.pars
    obtain ⟨ws, nw, fw, hQ⟩ := zz_
    have zz_ := hBase.uni
    obtain ⟨us, nu, fu, hU⟩ := zz_
    have wo := ways_ok y 2
    unfold waysSpec at wo
    have n23 : (2 : Nat) ≤ 3 := by omega
    run_tac walkP []
    have leZ := hle
    refine cd_useN [8, 9, 10, 1] ?e (by decide) rfl (HM 1 (Nat.add tk1 (nat_lit 30)) _ _ _ _ _ _ pa ws nw ps (by omega) hK (by show d + 1 + 40 < _; omega) (by show u + 3 + 200 < _; omega) (leZ _ _ fw) (hQ.mono leZ) hBase.ne hBase.count) ?x
    case e => exact (takes.spec (T := _) (ks := [8, 9, 10, 1]) (by exact ⟨by kernel_rfl, by kernel_rfl, by kernel_rfl, by kernel_rfl, trivial⟩)).2
    rintro g2 ρ6 tk6 _ _ le2 ⟨rfl, p1, mvs, nv, _, _, _, _, _, _, _, _, _, _, _, rfl, hMi⟩
    run_tac onward
    have hK := hK.mono le2
    have hle1 := leZ.trans le2
    have fu2 := hle1 _ _ fu
    have fw2 := hle1 _ _ fw
    have fab2 := hle1 _ _ fab
    run_tac walkP [] [1009]
    have leA := hle
    have fml := ‹g (ρ5 (nat_lit 9)) = some (lstO mvs nv)›
    have hle2 := hle1.trans hle
    have hlm : (mineP 1 ps).length ≤ 4 := Nat.le_trans (List.length_filter_le ..) hBase.count
    refine cd_useN [11, 12, 13, 14, 2] ?e2 (by decide) rfl (HR W _ _ _ _ _ _ _ _ _ aa us mvs nu nv (mineP 1 ps) hK hPok (hAb.mono hle2) (hle _ _ fab2) (by show d + 1 + 80 < _; omega) (by show u + 3 + 500 < _; omega) (hle _ _ fu2) (hU.mono hle2) fml (hMi.mono hle) hlm) ?x2
    case e2 => exact (takes.spec (T := _) (ks := [11, 12, 13, 14, 2]) (by exact ⟨by kernel_rfl, by kernel_rfl, by kernel_rfl, by kernel_rfl, by kernel_rfl, trivial⟩)).2
    rintro g3 ρ7 tk7 _ _ le3 ⟨rfl, p1', vr', nr', xu, rfl, hRi⟩
    run_tac onward
    have hK := hK.mono le3
    have hle3 := hle2.trans le3
    have hBase3 := hBase.mono hle3
    have hBest3 := hBest.mono hle3
    have fml3 := le3 _ _ fml
    run_tac walkP []
    have hle4 := hle3.trans hle
    cases hm : mineP 1 ps with
    | nil =>
      have hne := hBase.ne
      cases ps with
      | nil => exact absurd rfl hne
      | cons p qs =>
        have hp := (hQ.ok p (List.mem_cons_self ..)).1
        have : p ∈ mineP 0 (p :: qs) ∨ p ∈ mineP 1 (p :: qs) := by
          have zz_ := Nat.lt_or_ge p.1 1
          rcases zz_ with h | h
          · exact .inl (List.mem_filter.mpr ⟨List.mem_cons_self .., by simp; omega⟩)
          · exact .inr (List.mem_filter.mpr ⟨List.mem_cons_self .., by simp; omega⟩)
        rw [hm0, hm] at this
        simp at this
    | cons p0 qs =>
      rw [hm] at hMi
      cases hMi with
      | @cons w1 mvs _ _ hm1 hMi =>
      have hx0 : (w1 :: mvs)[0]? = some w1 := rfl
      have leM := leA.trans (le3.trans hle)
      have hm1' := hm1.mono leM
      have hMi' := hMi.mono leM
      have fmlg := hle _ _ fml3
      cases hm1' with
      | @mk a0 ta ea j0 tt ee m1 m2 m3 m4 =>
      have mtr : tt.tr := m4.tr
      have mdp : tt.dep ≤ 2 := m4.2.2.1
      have ml1 : (bvs (tt.ways true)).length ≤ 100 := wlen mdp
      have leB := hle
      run_tac walkP [``next_item, ``next_end, ``list_add_ok]
      run_tac mkLoop [0, 1, 2, 3, 4, 5, 6, 7, 12, 16] [.idx 16, .ent 0 8, .ent 0 11, .ent 0 12]
      refine HH _ _ _ _ _ _ _ _ _ _ _ _ _ _ _ _ _ _ v2 _ _ ρ3 ρ4 _ _ .none .none 0 _ _ _ _ _ _ _ _ _ _ _ _ W ps (hBase3.mono (leB.trans hle)) (hBest3.mono (leB.trans hle)) ?c1 (hRi.mono (leB.trans hle))
      exact ⟨⟨_, _, [(j0, tt, ee)], mvs, qs, _, _, hle _ _ fmlg, rfl, by rw [hm]; rfl, hMi'.mono hle, rfl, by
        have : bvs ([(j0, tt, ee)].flatMap fun p : Par => p.2.1.ways true) = [] ++ bvs (tt.ways true) := by simp
        rw [this]; assumption⟩⟩
end Mine

/-! W17 -/
namespace Mine
open PySem PySem.W PySem.W.X

abbrev T8 := (Nat → Nat) → Nat → Nat → Value → Value → Value → Value → Nat → Nat → Nat → Nat → Nat → Nat → Nat → Nat → Nat → Nat → Value → Value → (Nat → Nat) → Nat → (Nat → Addr) → (Nat → Addr) → Nat → Nat → Value → Value → Addr → (Nat → Nat) → (Nat → Addr) → (Nat → Addr) → Value → Value → Value → (Nat → Nat) → Nat → Value → List Value → Nat → Gm → Nat → Value → Value → Value → Value → Prop
def C8 (g0 : Gm) (ρ0 : Nat → Addr) (P : T8) : Prop := ∀ ρr k1 k2 vk vr vi vf pa t1 t2 t3 t4 t5 t6 t7 t8 t9 v1 v2 ρ1 tk1 ρ3 ρ4 tk4 tkw vt0 va0 wl0 ρ5 ρ6 ρ7 xt xw xa ρ8 tk8 xf bl nb g i vw vt va vd W ps, Base g0 g ρ0 W pa (ρ1 (nat_lit 40)) ps → (∃ b0 b1, bl = [b0, b1] ∧ xf = .bool (fitV b0 b1) ∧ BestOf g W 0 ps b0 ∧ BestOf g W 1 ps b1) → LoopT g W pa i vw vt va vd ps → P ρr k1 k2 vk vr vi vf pa t1 t2 t3 t4 t5 t6 t7 t8 t9 v1 v2 ρ1 tk1 ρ3 ρ4 tk4 tkw vt0 va0 wl0 ρ5 ρ6 ρ7 xt xw xa ρ8 tk8 xf bl nb g i vw vt va vd
noncomputable def lawI (y : Wd) (g0 : Gm) (d u sc m : Nat) (xs : List Value) (hK0 : KIn (tops y) g0) (hd : d + 300 < recursionLimit) (hu : u + 2500 < cLine) (hsc : g0 sc = some (lstO xs m)) (h63 : xs.length ≤ 63) (hi : AllI xs) (F : Frm) (ρ0 : Nat → Addr) (tk : Nat) (R : Result → Shared → Prop) (hk : F.k₀ = 0) :
    { P : T8 // C8 g0 ρ0 P → C7 g0 ρ0 (lawH y g0 d u sc m xs hK0 hd hu hsc h63 hi F ρ0 tk R hk).1 } := by
  refine ⟨?P8, ?A⟩
  case A =>
    intro HH
    unfold C8 at HH
    show C7 g0 ρ0 (lawH y g0 d u sc m xs hK0 hd hu hsc h63 hi F ρ0 tk R hk).1
    run_tac openLast
    intro ρr k1 k2 vk vr vi vf pa t1 t2 t3 t4 t5 t6 t7 t8 t9 v1 v2 ρ1 tk1 ρ3 ρ4 tk4 tkw vt0 va0 wl0 ρ5 ρ6 ρ7 xt xw xa ρ8 tk8 g1 xf bl nb W ps hBase hB ρ9 tk9
    have hK := hK0.mono hBase.le
    have zz_ := hBase.pars
    obtain ⟨ws, nw, fw, hQ⟩ := zz_
    have zz_ := hBase.il
    obtain ⟨ii, mi, fi, hIl⟩ := zz_
    have zz_ := hBase.vl
    obtain ⟨vv, mv, fv, hVl⟩ := zz_
    have hWo := hBase.wo
    have ty2 := type_ok y W 2
    have ty3 := type_ok y W 3
    unfold typeSpec at ty2 ty3
    have inf := (inf_ok y W 2).1
    unfold infSpec at inf
    have n23 : (2 : Nat) ≤ 3 := by omega
    have n33 : (3 : Nat) ≤ 3 := by omega
    cases hQ with
    | nil => exact absurd rfl hBase.ne
    | @cons w0 ws p0 qs hp0 hQ =>
    have hx0 : (w0 :: ws)[0]? = some w0 := rfl
    cases hp0 with
    | @mk a0 ta ea j0 k0 tt ee m1 m2 m3 m4 =>
    have zz_ := m4.all
    obtain ⟨q1, q2, q3, q4, q5, q6, q7⟩ := zz_
    have q8 : tt.tvl.length ≤ 20 := Nat.le_trans q7 (by omega)
    run_tac walkP [``next_item, ``next_end, ``list_add_ok]
    run_tac mkOut `P8 [0, 1, 2, 3, 4, 5, 7] [.idx 7, .cel 1, .ent 0 8, .ent 0 12, .ent 0 14]
    have e : allC [((j0, tt, ee) : Par)] = tt.cons ee true := by simp [allC, consP]
    exact HH _ _ _ _ _ _ _ _ _ _ _ _ _ _ _ _ _ _ v2 _ _ ρ3 ρ4 tk4 tkw vt0 va0 wl0 ρ5 ρ6 ρ7 xt xw xa ρ8 tk8 _ _ _ _ _ _ _ _ _ W _ (hBase.mono hle) (let ⟨b0, b1, e1, e2, e3, e4⟩ := hB; ⟨b0, b1, e1, e2, e3.mono hle, e4.mono hle⟩) ⟨⟨_, _, [(j0, tt, ee)], ws, qs, _, _, _, hle _ _ fw, rfl, rfl, hQ.mono hle, rfl, by assumption, by rw [e]; assumption, ⟨_, _, rfl⟩, ⟨_, rfl⟩, ⟨_, rfl⟩⟩⟩
end Mine

/-! W18 -/
namespace Mine
open PySem PySem.W PySem.W.X

theorem read_two (y : Wd) (W : Wo) (s t : PT) (hs : s.uni) (ht : t.uni) (g0 : Gm) (d u : Nat) (a : Addr) (hK0 : KIn (tops y) g0) (hW : WoIs g0 W) (hd : d + 28 < recursionLimit) (hu : u + 240 < cLine) (ha : TyIs g0 W a (.two s t)) :
    Pu (cx y) g0 d u (.call (.ref 1234) ⟨[.ref a], []⟩) (fun g' r => ∃ c vs, r = .ok (.ret (.ref c)) ∧ g' c = some (tupO vs) ∧ PTIs g' c (.two s t)) := by
  refine (read_pair y W s t hs ht g0 d u a hK0 hW hd hu ha).mono ?_
  rintro g' r _ ⟨c, e, p⟩
  have zz_ := p.tupF
  obtain ⟨vs, q⟩ := zz_
  exact ⟨c, vs, e, q, p⟩
def HoldsSpec (y : Wd) (ρ0 : Nat → Addr) (c : Cd3) : Prop := ∀ (W : Wo) (g : Gm) (d u it acc fr pa il vl e mi mv me c0 c1 : Nat) (t0 t1 : PT) (ws : List Value) (nw : Nat) (ps : List Par), KIn (tops y) g → WoIs g W → d + 110 < recursionLimit → u + 700 < cLine → g pa = some (lstO ws nw) → ParsAre g ws ps → ps ≠ [] → ps.length ≤ 4 →
  g (ρ0 (nat_lit 2)) = some (celO (.ref il)) → g il = some (lstO [.ref (W.I 0), .ref (W.I 1), .ref (W.I 2), .ref (W.I 3), .ref (W.I 4), .ref (W.I 5), .ref (W.I 6)] mi) → g (ρ0 (nat_lit 3)) = some (celO (.ref vl)) → g vl = some (lstO [.ref (W.V 0), .ref (W.V 1)] mv) →
  g e = some (dct [⟨1, .ref (W.vi 0), .ref c0⟩, ⟨2, .ref (W.vi 1), .ref c1⟩] me) → TyIs g W c0 t0 → TyIs g W c1 t1 → t0.uni → t1.uni →
  PuN (cx y) g d u (c it acc fr) [(it, liO pa 0), (acc, lstO [] 0), (fr, dct [] 0), (ρ0 (nat_lit 7), celO (.ref e))]
    (fun g' os' r => r = .ok .next ∧ ∃ p1 n h1 h2 h3 q1 q2 q3 x1 x1' x2 x3 m, os' = [p1, lstO (bvs (ps.map (holdsP W t0 t1))) n, dct [key h1 q1 "which" (.int x1 x1'), key h2 q2 "tree" (.ref x2), key h3 q3 "arg" (.ref x3)] m, celO (.ref e)])
noncomputable def lawJ (y : Wd) (g0 : Gm) (d u sc m : Nat) (xs : List Value) (hK0 : KIn (tops y) g0) (hd : d + 300 < recursionLimit) (hu : u + 2500 < cLine) (hsc : g0 sc = some (lstO xs m)) (h63 : xs.length ≤ 63) (hi : AllI xs) (F : Frm) (ρ0 : Nat → Addr) (tk : Nat) (R : Result → Shared → Prop) (hk : F.k₀ = 0) :
    { c : Cd3 // HoldsSpec y ρ0 c → (∀ (g' : Gm) (T' : Tr) (ρ' : Nat → Addr) (tk' : Nat) (r : Result), Le g0 g' → r = .ok (.ret (.bool true)) → En (cx y) F g' T' ρ' tk' (R r)) → C8 g0 ρ0 (lawI y g0 d u sc m xs hK0 hd hu hsc h63 hi F ρ0 tk R hk).1 } := by
  refine ⟨?cH, ?A⟩
  case A =>
    intro HC K
    unfold HoldsSpec at HC
    show C8 g0 ρ0 (lawI y g0 d u sc m xs hK0 hd hu hsc h63 hi F ρ0 tk R hk).1
    run_tac openLast
    intro ρr k1 k2 vk vr vi vf pa t1 t2 t3 t4 t5 t6 t7 t8 t9 v1 v2 ρ1 tk1 ρ3 ρ4 tk4 tkw vt0 va0 wl0 ρ5 ρ6 ρ7 xt xw xa ρ8 tk8 xf bl nb g1 i vw vt va vd W ps hBase ⟨b0, b1, hbl, hxf, hB0, hB1⟩ ⟨hL⟩
    subst hbl
    obtain ⟨ws, nw, done, ws2, rest, tl, vs, nt, fw, hdr, hdn, hPs, rfl, ftl, hCo, ⟨wi, wk, rfl⟩, ⟨ta0, rfl⟩, ⟨aa0, rfl⟩⟩ := hL
    have hPok := hBase.wo.parOk
    have hall : ∀ q ∈ ps, parOk q := by obtain ⟨ws, _, _, hQ⟩ := hBase.pars; exact hQ.ok
    induction rest generalizing g1 i done ws2 tl vs nt wi wk ta0 aa0 with
    | cons p rest ih =>
      intro ρ9 tk9
      have hK := hK0.mono hBase.le
      have zz_ := hBase.il
      obtain ⟨ii, mi, fi, hIl⟩ := zz_
      have zz_ := hBase.vl
      obtain ⟨vv, mv, fv, hVl⟩ := zz_
      have hWo := hBase.wo
      have ty2 := type_ok y W 2
      have ty3 := type_ok y W 3
      unfold typeSpec at ty2 ty3
      have inf := (inf_ok y W 2).1
      unfold infSpec at inf
      have n23 : (2 : Nat) ≤ 3 := by omega
      have n33 : (3 : Nat) ≤ 3 := by omega
      cases hPs with
      | @cons w0 ws2 _ _ hp0 hPs =>
      have zz_ := drop_at hdr
      obtain ⟨hx0, hdr'⟩ := zz_
      have hln : vs.length ≤ 100 := by
        rw [hCo.len]
        have a := allC_len done fun q hq => hall q (hdn ▸ List.mem_append_left _ hq)
        have b := congrArg List.length hdn
        have c := hBase.count
        rw [List.length_append] at b
        omega
      cases hp0 with
      | @mk a0 ta ea j0 k0 tt ee m1 m2 m3 m4 =>
      have zz_ := m4.all
      obtain ⟨q1, q2, q3, q4, q5, q6, q7⟩ := zz_
      have q8 : tt.tvl.length ≤ 20 := Nat.le_trans q7 (by omega)
      run_tac walkP [``next_item, ``next_end, ``list_add_ok]
      have hco := ‹CosAre g W _ (tt.cons ee true)›
      run_tac mkLoop [0, 1, 2, 3, 4, 5, 6] [.idx 6, .cel 1, .ent 0 8, .ent 0 12, .ent 0 14]
      exact ih _ _ (hBase.mono hle) (hB0.mono hle) (hB1.mono hle) (done ++ [(j0, tt, ee)]) ws2 _ _ _ (hle _ _ fw) hdr' (by rw [← hdn]; simp) (hPs.mono hle) (by assumption) (by rw [allC_app]; exact (hCo.mono hle).append hco) _ _ _ _
    | nil =>
      intro ρ9 tk9
      have hK := hK0.mono hBase.le
      have zz_ := hBase.il
      obtain ⟨ii, mi, fi, hIl⟩ := zz_
      have zz_ := hBase.vl
      obtain ⟨vv, mv, fv, hVl⟩ := zz_
      have hWo := hBase.wo
      cases hPs
      rw [List.append_nil] at hdn
      subst hdn
      have hx := drop_end hdr
      have hz : ∀ c ∈ allC done, c.2.1 = false → c.2.2.dep ≤ 0 := fun c hc => (allC_ok hPok hall c hc).2
      have h40 : vs.length ≤ 40 := by
        rw [hCo.len]
        have a := allC_len done hall
        have c := hBase.count
        omega
      cases h0 : sol W (sel 0 (allC done)) with
      | none =>
        obtain rfl := hB0.no (none_right hPok hall 0 h0)
        obtain rfl : xf = .bool false := hxf
        run_tac walkP [``next_item, ``next_end, ``sc_none0]
        all_goals exact K _ _ _ _ _ (hBase.le.trans hle) rfl
      | some s0 =>
        cases h1 : sol W (sel 1 (allC done)) with
        | none =>
          obtain rfl := hB1.no (none_right hPok hall 1 h1)
          obtain rfl : xf = .bool false := by rw [hxf]; cases b0 <;> rfl
          run_tac walkP [``next_item, ``next_end, ``sc_none1]
          all_goals exact K _ _ _ _ _ (hBase.le.trans hle) rfl
        | some s1 =>
          have u0 := sol_uni hPok hall 0 h0
          have u1 := sol_uni hPok hall 1 h1
          have vne := hWo.vi_ne
          have vne' : W.vi 1 ≠ W.vi 0 := fun e => vne e.symm
          have zz_ := (hWo.vars 0 (by omega)).1
          cases zz_ with | mk e1 e2 e3 =>
          have zz_ := (hWo.vars 0 (by omega)).2
          cases zz_ with | mk i1 i2 =>
          have zz_ := (hWo.vars 1 (by omega)).1
          cases zz_ with | mk e1' e2' e3' =>
          have zz_ := (hWo.vars 1 (by omega)).2
          cases zz_ with | mk i1' i2' =>
          run_tac walkP [``next_item, ``next_end, ``sc_some] [4]
          run_tac mkCodeT `cH [10, 11, 12]
          have leA := hle
          have z0 := ‹TyIs g W _ s0›
          have z1 := ‹TyIs g W _ s1›
          have fi1 := leA _ _ fi
          have fv1 := leA _ _ fv
          have hIl1 := leA _ _ hIl
          have hVl1 := leA _ _ hVl
          have zz_ := hBase.pars
          obtain ⟨wsA, nwA, fwA, hQA⟩ := zz_
          have henv : ∃ e me, g e = some (dct [⟨1, .ref (W.vi 0), .ref _⟩, ⟨2, .ref (W.vi 1), .ref _⟩] me) := ⟨_, _, by assumption⟩
          refine cd_useN [10, 11, 12, 4] ?e (by decide) rfl (HC W _ _ _ _ _ _ pa ii vv _ mi mv _ _ _ s0 s1 wsA nwA done hK (hWo.mono leA) (by show d + 1 + 110 < _; omega) (by show u + 3 + 700 < _; omega) (leA _ _ fwA) (hQA.mono leA) hBase.ne hBase.count fi1 hIl1 fv1 hVl1 (by assumption) z0 z1 u0 u1) ?x
          case e => exact (takes.spec (T := _) (ks := [10, 11, 12, 4]) (by exact ⟨by kernel_rfl, by kernel_rfl, by kernel_rfl, by kernel_rfl, trivial⟩)).2
          rintro g2 ρA tkA _ _ le2 ⟨rfl, p1, n, _, _, _, _, _, _, _, _, _, _, _, rfl⟩
          run_tac onward
          have hK := hK.mono le2
          have leB := leA.trans le2
          have zz_ := bests hB0 hB1
          rcases zz_ with ⟨hf, hr⟩ | ⟨a0, t0, a1, t1, rfl, rfl, p0, p1', n0, n1, y0, y1⟩
          · have hx2 : xf = .bool false := by rw [hxf, hf]
            subst hx2
            have hA : (done.map (holdsP W s0 s1)).all id = false := by
              have := holds_no hPok hall u0 u1 hr
              simpa [List.all_map, Function.comp_def] using this
            run_tac walkP [``allF_ok]
            all_goals exact K _ _ _ _ _ (hBase.le.trans (leB.trans hle)) rfl
          · obtain rfl : xf = .bool true := hxf
            rw [h0] at y0; cases y0
            rw [h1] at y1; cases y1
            have zz_ := right_best hPok hall 0 n0
            obtain ⟨_, k1, k2, k3, _⟩ := zz_
            rw [h0] at k1; cases k1
            have zz_ := right_best hPok hall 1 n1
            obtain ⟨_, l1, l2, l3, _⟩ := zz_
            rw [h1] at l1; cases l1
            have hA : (done.map (holdsP W s0 s1)).all id = true := by
              have := holds_yes hPok hall k3 l3
              simpa [List.all_map, Function.comp_def] using this
            have v0 : (∃ c, s0 = .leaf c) ∨ ∃ c k, s0 = .un c (.leaf k) := by
              have zz_ := PT.uni_cases u0
              rcases zz_ with h | ⟨_, _, h⟩ | ⟨_, _, h⟩
              · exact .inl ⟨_, h⟩
              · exact .inl ⟨_, h⟩
              · exact .inr ⟨_, _, h⟩
            have v1 : (∃ c, s1 = .leaf c) ∨ ∃ c k, s1 = .un c (.leaf k) := by
              have zz_ := PT.uni_cases u1
              rcases zz_ with h | ⟨_, _, h⟩ | ⟨_, _, h⟩
              · exact .inl ⟨_, h⟩
              · exact .inl ⟨_, h⟩
              · exact .inr ⟨_, _, h⟩
            have p0 := p0.mono leB
            have p1' := p1'.mono leB
            have zz_ := p0.tupF
            obtain ⟨_, fp0⟩ := zz_
            have zz_ := p1'.tupF
            obtain ⟨_, fp1⟩ := zz_
            have z0 := z0.mono le2
            have z1 := z1.mono le2
            have hWo2 := hWo.mono leB
            have fi2 := le2 _ _ fi1
            have fv2 := le2 _ _ fv1
            have hIl2 := le2 _ _ hIl1
            have hVl2 := le2 _ _ hVl1
            have he2 := le2 _ _ ‹g _ = some (dct [⟨1, .ref (W.vi 0), .ref _⟩, ⟨2, .ref (W.vi 1), .ref _⟩] _)›
            run_tac walkP [``allT_ok, ``mkPair_ok, ``expPair_ok, ``read_two, ``teq_two]
            all_goals exact K _ _ _ _ _ (hBase.le.trans (leB.trans hle)) rfl
end Mine

/-! W19 -/
namespace Mine
open PySem PySem.W PySem.W.X

theorem holds_ok (y : Wd) (g0 : Gm) (d u sc m : Nat) (xs : List Value) (hK0 : KIn (tops y) g0) (hd : d + 300 < recursionLimit) (hu : u + 2500 < cLine) (hsc : g0 sc = some (lstO xs m)) (h63 : xs.length ≤ 63) (hi : AllI xs) (F : Frm) (ρ0 : Nat → Addr) (tk : Nat) (R : Result → Shared → Prop) (hk : F.k₀ = 0) : HoldsSpec y ρ0 (lawJ y g0 d u sc m xs hK0 hd hu hsc h63 hi F ρ0 tk R hk).1 := by
  run_tac openLast
  intro W g1 e v it acc fr pa il vl en mi mv me c0 c1 t0 t1 ws nw ps hK hWo hd' hu' fw hQ hne h4 fi hIl fv hVl he z0 z1 u0 u1
  clear hd hu
  have ty3 := type_ok y W 3
  unfold typeSpec at ty3
  have su := sub2_ok y W 3
  unfold sub2Spec at su
  have n33 : (3 : Nat) ≤ 3 := by omega
  refine pun_of fun F ρr tkr R hk K => ?_
  have hk : F.k₀ = 4 := hk
  run_tac normCd
  cases hQ with
  | nil => exact absurd rfl hne
  | @cons w0 ws p0 qs hp0 hQ =>
  have hx0 : (w0 :: ws)[0]? = some w0 := rfl
  refine via_P (T := Nat → Gm → Nat → Value → Value → Value → List Value → Nat → Prop) ?P1 (fun P => ∀ x g i vw vt va rs n done rest vs2, Le g1 g → (w0 :: ws).drop i = vs2 → done ++ rest = p0 :: qs → ParsAre g vs2 rest → rs = bvs (done.map (holdsP W t0 t1)) → (∃ a b, vw = .int a b) → (∃ a, vt = .ref a) → (∃ a, va = .ref a) → P x g i vw vt va rs n) ?A1 ?B1
  case A1 =>
    intro HH
    have hp0' := hp0
    cases hp0' with
    | @mk a0 ta ea j0 k0 tt ee m1 m2 m3 m4 =>
      have zz_ := m4.all
      obtain ⟨q1, q2, q3, q4, q5, q6, q7⟩ := zz_
      have q2' : tt.dep ≤ 3 := Nat.le_trans q2 (by omega)
      have zz_ := exp_uni m4 u0 u1
      obtain ⟨x1, x2⟩ := zz_
      run_tac walkP [``next_item, ``next_end, ``list_append_ok, ``expand_ok]
      have hsays := ‹Says _ (ee.sub W (tt.exp (pick2 t0 t1)))›
      run_tac mkOut `P1 [0, 1, 2, 3] [.idx 0, .ent 2 0, .ent 2 1, .ent 2 2, .lst 1]
      exact HH _ _ _ _ _ _ _ _ [(j0, tt, ee)] qs ws hle rfl rfl (hQ.mono hle) (by rw [says_eq hsays]; rfl) ⟨_, _, rfl⟩ ⟨_, rfl⟩ ⟨_, rfl⟩
  case B1 =>
    intro x g i vw vt va rs n done rest vs2 le0 hdr hdn hPs hrs hw ht hv
    induction rest generalizing g i vw vt va rs n done vs2 with
    | nil =>
      intro ρ1 tk1
      cases hPs
      rw [List.append_nil] at hdn
      subst hdn
      obtain ⟨_, _, rfl⟩ := hw
      obtain ⟨_, rfl⟩ := ht
      obtain ⟨_, rfl⟩ := hv
      have hK := hK.mono le0
      have fw1 := le0 _ _ fw
      have hx := drop_end hdr
      run_tac walkP [``next_item, ``next_end]
      all_goals exact K _ _ _ _ _ [_, _, _, _] (le0.trans hle) ⟨rfl, rfl, rfl, rfl, trivial⟩ ⟨rfl, _, _, _, _, _, _, _, _, _, _, _, _, _, by rw [hrs]; rfl⟩
    | cons p rest ih =>
      intro ρ1 tk1
      cases hPs with
      | @cons v2 vs2 _ _ hp2 hPs =>
      have zz_ := drop_at hdr
      obtain ⟨hx, hdr'⟩ := zz_
      obtain ⟨_, _, rfl⟩ := hw
      obtain ⟨_, rfl⟩ := ht
      obtain ⟨_, rfl⟩ := hv
      have hK := hK.mono le0
      have fw0 := le0 _ _ fw
      have hWo0 := hWo.mono le0
      have fi0 := le0 _ _ fi
      have fv0 := le0 _ _ fv
      have hIl0 := le0 _ _ hIl
      have hVl0 := le0 _ _ hVl
      have he0 := le0 _ _ he
      have z00 := z0.mono le0
      have z10 := z1.mono le0
      have hln : rs.length ≤ 100000 := by
        have := congrArg List.length hdn
        rw [hrs, bvs, List.length_map, List.length_map]
        simp only [List.length_append, List.length_cons] at *
        omega
      cases hp2 with
      | @mk a0 ta ea j0 k0 tt ee m1 m2 m3 m4 =>
      have zz_ := m4.all
      obtain ⟨q1, q2, q3, q4, q5, q6, q7⟩ := zz_
      have q2' : tt.dep ≤ 3 := Nat.le_trans q2 (by omega)
      have zz_ := exp_uni m4 u0 u1
      obtain ⟨x1, x2⟩ := zz_
      run_tac walkP [``next_item, ``next_end, ``list_append_ok, ``expand_ok]
      have hsays := ‹Says _ (ee.sub W (tt.exp (pick2 t0 t1)))›
      run_tac mkLoop [0, 1, 2, 3] [.idx 0, .ent 2 0, .ent 2 1, .ent 2 2, .lst 1]
      exact ih _ _ _ _ _ _ _ (done ++ [(j0, tt, ee)]) vs2 (le0.trans hle) hdr' (by rw [← hdn]; simp) (hPs.mono hle) (by rw [says_eq hsays, hrs, List.map_append, ← bvs_append]; rfl) ⟨_, _, rfl⟩ ⟨_, rfl⟩ ⟨_, rfl⟩
end Mine

/-! W20 -/
namespace Mine
open PySem PySem.W PySem.W.X

theorem law_ok (y : Wd) (g0 : Gm) (d u sc m : Nat) (xs : List Value) (hK0 : KIn (tops y) g0) (hd : d + 300 < recursionLimit) (hu : u + 2500 < cLine) (hsc : g0 sc = some (lstO xs m)) (h63 : xs.length ≤ 63) (hi : AllI xs) :
    Pu (cx y) g0 d u (.call (.ref 1239) ⟨[.ref sc], []⟩) (fun _ r => r = .ok (.ret (.bool true))) := by
  refine pu_of fun F ρ0 tk R hk K => ?_
  have c6 : C6 g0 ρ0 (lawG y g0 d u sc m xs hK0 hd hu hsc h63 hi F ρ0 tk R hk).1 := (lawH y g0 d u sc m xs hK0 hd hu hsc h63 hi F ρ0 tk R hk).2 ((lawI y g0 d u sc m xs hK0 hd hu hsc h63 hi F ρ0 tk R hk).2 ((lawJ y g0 d u sc m xs hK0 hd hu hsc h63 hi F ρ0 tk R hk).2 (holds_ok y g0 d u sc m xs hK0 hd hu hsc h63 hi F ρ0 tk R hk) K))
  have c5 : C5 g0 ρ0 (lawF y g0 d u sc m xs hK0 hd hu hsc h63 hi F ρ0 tk R hk).1.2 := (lawG y g0 d u sc m xs hK0 hd hu hsc h63 hi F ρ0 tk R hk).2 c6
  have c4 : C4 g0 ρ0 (lawE y g0 d u sc m xs hK0 hd hu hsc h63 hi F ρ0 tk R hk).1.2.2 := (lawF y g0 d u sc m xs hK0 hd hu hsc h63 hi F ρ0 tk R hk).2 (lawGn y g0 d u sc m xs hK0 hd hu hsc h63 hi F ρ0 tk R hk c6) c5
  have c4n : C4n g0 ρ0 (lawEn y g0 d u sc m xs hK0 hd hu hsc h63 hi F ρ0 tk R hk).1 := lawFn y g0 d u sc m xs hK0 hd hu hsc h63 hi F ρ0 tk R hk c5
  have c2 := (lawD y g0 d u sc m xs hK0 hd hu hsc h63 hi F ρ0 tk R hk).2 (mine_ok y g0 d u sc m xs hK0 hd hu hsc h63 hi F ρ0 tk R hk) (right_ok y g0 d u sc m xs hK0 hd hu hsc h63 hi F ρ0 tk R hk) ((lawEn y g0 d u sc m xs hK0 hd hu hsc h63 hi F ρ0 tk R hk).2 c4n) ((lawE y g0 d u sc m xs hK0 hd hu hsc h63 hi F ρ0 tk R hk).2 (bestD_ok y g0 d u sc m xs hK0 hd hu hsc h63 hi F ρ0 tk R hk) (bestU_ok y g0 d u sc m xs hK0 hd hu hsc h63 hi F ρ0 tk R hk) c4)
  exact (lawA y g0 d u sc m xs hK0 hd hu hsc h63 hi F ρ0 tk R hk).2 ((lawB y g0 d u sc m xs hK0 hd hu hsc h63 hi F ρ0 tk R hk).2 ((lawC y g0 d u sc m xs hK0 hd hu hsc h63 hi F ρ0 tk R hk).2 c2))
end Mine

/-! HeadD -/
namespace Mine
open PySem PySem.W PySem.W.X PySem.Spec PySem.Calls PyProof.Rows
/-- the namespace behind the top -/
noncomputable def globO (P : Params) : Obj := match (top P).get mainGlobals with | some o => o | none => ⟨.none, none, .freed, #[]⟩
def esOf (o : Obj) : Array DictEntry := match o.data with | .dict es _ => es | _ => #[]
theorem glob_is (P : Params) : (top P).get mainGlobals = some (globO P) := by kernel_rfl
theorem glob_law (P : Params) : nsFind (esOf (globO P)) (Str.ofString "law") = some (.ref 1239) := by kernel_rfl
theorem law_at {w : World} {s : Shared} {h : Heap} {mg : Str → Option Value} (y : seenOf s = seenIs w) (kp : ∀ b o, s.heap.get? b = some o → h.get? b = some o) (ns : h.Ns mainGlobals mg) : mg (Str.ofString "law") = some (.ref 1239) := by
  obtain ⟨o, es, ep, ho, hd, _, hf⟩ := ns
  have e := kp _ _ (top_in y _ _ (glob_is w.params))
  rw [ho] at e
  have e : o = globO w.params := Option.some.inj e
  have : es = esOf (globO w.params) := by rw [← e]; unfold esOf; rw [hd]
  rw [← hf, this]
  exact glob_law _
theorem codeAny_caller {M : Model} {c : Code} {R : Result → Shared → Prop} {s : Shared} (h : codeAny M (Ar (1 + claimMargin) 4) c R s) : codeAny M callerA c R s :=
  fun Γ p e b => h Γ p e ⟨b.1, b.2.1, fun l z => (by cases z), fun g z => (by cases z), b.2.2.2.2⟩
theorem ints_all {vs : List Value} {ns : List Int} (h : IntsAre vs ns) : AllI vs := by
  induction h with
  | nil => intro v hv; cases hv
  | cons n t _ ih =>
    intro v hv
    rcases List.mem_cons.mp hv with rfl | hv
    · exact ⟨_, _, rfl⟩
    · exact ih v hv
theorem walk_ok (q : Program) (loose : List Str) (XP : (Str → Option Value) → Heap → Prop) (d : DefRec) (hn : d.name = Str.ofString "law") (kwd : List (Str × Expr)) :
    WalkX q loose XP seenOf seenIs PySem.Challenge.rw_ft0028_01.row.toRowW d kwd (fun f vs => PySem.call f vs) := by
  intro w s₀ s₁ mg mb G y fa o pm cd doc dV kV ho hd hcd hD hmg hg args vals as L hpre hlay hrd hwl hlo
  have hm := law_at y L.keeps G.T.g
  rw [hn, hm] at hmg
  have hfa : 1239 = fa := by injection hmg with h; injection h
  subst hfa
  clear hmg ho hd hcd hD
  wrow_args hpre hlay hrd hwl hlo
  have hInts := ‹IntsAre _ _›
  have hcd := ‹¬ (63 : Int) < _›
  have hLs := ‹s₁.heap.IsList _ _›
  have f := script_obj L hLs
  have hl := hInts.length
  let y' : Wd := ⟨w, s₁.gens, s₁.drawn, s₁.os⟩
  have hK : KIn (tops y') s₁.heap.get? := fun a o e => L.keeps _ _ (top_in y a o e)
  have P := law_ok y' s₁.heap.get? (1 + claimMargin) 4 _ 0 _ hK (by decide) (by decide) f (by omega) (ints_all hInts)
  refine wpAny_call (codeAny_caller ?_)
  refine P s₁.heap s₁.toks (fun _ _ e => e) _ ?_
  intro g' h' tk' r l hi kp sz ol hp
  subst hp
  exact ⟨.inl ⟨_, _, [], rfl, fun _ => rfl, ReadsW.bool true, by wrow_post, fun _ => ⟨List.nodup_nil, fun _ hm => (nomatch hm)⟩⟩, OldK.of_keep kp, rfl, .of_eq hg⟩
end Mine

/-! HeadE -/
namespace Mine
open Lean Meta Elab Tactic PySem PySem.W PySem.W.X PySem.Calls PyProof.Rows
abbrev ObRow := Array (Obj × Obj × Lean.Expr)
/-- each object new since the last state as a definition of its own, in the twin's form: no twin is made of it nor of what names it -/
def layRow (old : ObRow) (s s' : Shared) : MetaM ObRow := do
  let P := mkConst ``Params
  let ty ← mkArrow P (mkConst ``Obj)
  let mut out := #[]
  for i in [0:s.heap.objs.size] do
    let (x, x') := (s.heap.objs[i]!, s'.heap.objs[i]!)
    if let some (a, a', e) := old[i]? then
      if sameObjNow a x && sameObjNow a' x' then
        out := out.push (a, a', e)
        continue
    let v ← withLocalDeclD `P P fun p => do
      let e := objE p x
      unless e == objE p x' do throwError "head: an object is the world's"
      let e := match ← Fast.quick e with | some (e', _) => e' | none => e
      mkLambdaFVars #[p] e
    out := out.push (x, x', ← defAt `ho ty v)
  return out
def rowState (o : ObRow) (s : Shared) (tree : Bool) : MetaM PySem.W.State := do
  let P := mkConst ``Params
  let os := o.map (·.2.2)
  let gens := mkApp2 (mkConst ``Array.mk [0]) (mkConst ``GenState) (mkApp (mkConst ``List.nil [0]) (mkConst ``GenState))
  let life := toExpr s.heap.life
  let st : PySem.W.State := { heap := default, gens, drawn := toExpr s.drawn, toks := mkRawNatLit s.toks }
  if tree then
    let v ← withLocalDeclD `P P fun p => mkLambdaFVars #[p] (treeE p os 1 0)
    return { st with tree := some (← defAt `ht (← mkArrow P (mkConst ``BT)) v, mkRawNatLit s.heap.objs.size, life) }
  else
    let v ← withLocalDeclD `P P fun p => mkLambdaFVars #[p] (mkApp2 (mkConst ``Heap.mk) (mkApp2 (mkConst ``Array.mk [0]) (mkConst ``Obj) (listE (mkConst ``Obj) (os.toList.map fun e => mkApp e p))) life)
    return { st with heap := ← defAt `hh (← mkArrow P (mkConst ``Heap)) v }
def asLem (ty pf : Lean.Expr) : MetaM Lean.Expr := return mkConst (← withOptions (Elab.async.set · false) (mkAuxLemma [] ty pf (cache := false)))
/-- for every world and system: an equation that the kernel reckons -/
def eqAll (l r : Lean.Expr → Lean.Expr → MetaM Lean.Expr) : MetaM Lean.Expr := byPiece [] l r
/-- an equation at every world, by the kernel -/
def byK (ty : Lean.Expr) : MetaM Lean.Expr := do
  let .forallE n d b bi := ty | throwError "head: {ty}"
  byKernelQuick (.lam n d b bi) []
def seenOne (l r : Lean.Expr) : MetaM Lean.Expr := do
  let W := mkConst ``World
  let O := mkConst ``OsState
  let P ← withLocalDeclD `w W fun w => do mkLambdaFVars #[w] (← mkEq (mkApp l w).headBeta (mkApp r w).headBeta)
  let e ← byKernelQuick P []
  withLocalDeclD `w W fun w => withLocalDeclD `os O fun os => do mkLambdaFVars #[w, os] (← mkAppM ``congrFun #[mkApp e w, os])
def seenHalves (e : Lean.Expr) : MetaM (Option (Lean.Expr × Lean.Expr)) := withLocalDeclD `w (mkConst ``World) fun w => withLocalDeclD `os (mkConst ``OsState) fun os => do
  let b := (mkApp2 e w os).headBeta
  let b ← if b.isAppOf ``openSeen || b.isAppOf ``openGood then pure ((← unfoldDefinition? b).getD b) else pure b
  if b.isAppOfArity ``Prod.mk 4 then return some (← mkLambdaFVars #[w, os] b.getAppArgs[2]!, ← mkLambdaFVars #[w, os] b.getAppArgs[3]!)
  return none
/-- a pair of pairs that is to be seen, part by part -/
def seenParts : Nat → Lean.Expr → Lean.Expr → MetaM Lean.Expr
  | 0, l, r => seenOne l r
  | n + 1, l, r => do
    match ← seenHalves l, ← seenHalves r with
    | some (l1, l2), some (r1, r2) =>
      let x ← seenParts n l1 r1
      let y ← seenParts n l2 r2
      let (ty, pf) ← withLocalDeclD `w (mkConst ``World) fun w => withLocalDeclD `os (mkConst ``OsState) fun os => do
        pure (← mkForallFVars #[w, os] (← mkEq (mkApp2 l w os).headBeta (mkApp2 r w os).headBeta), ← mkLambdaFVars #[w, os] (← mkAppM ``looks_pair #[mkApp2 x w os, mkApp2 y w os]))
      asLem ty pf
    | _, _ => seenOne l r
def leftOwn (g : MVarId) : MetaM Unit := g.withContext do
  let p ← progOf pE
  let T := (← instantiateMVars (← g.getType)).consumeMData
  unless T.isAppOf ``LeftO do throwError "head: {T}"
  let a := T.getAppArgs
  let NE := a[7]!
  let some N ← (Meta.evalNat NE).run | throwError "head: N"
  let (t, t') ← match ← traceTop p N 1, ← traceTop p N 2 with
    | .ok t, .ok t' => pure (t, t')
    | .error m, _ | _, .error m => throwError "head: {m}"
  let W := mkConst ``World
  let O := mkConst ``OsState
  let tb := mkConst ``treeTable
  let m0 := natE t.s0.heap.objs.size
  let annE := toExpr t.ann
  let main ← mkAppM ``Program.main #[pE]
  let scope ← mkAppM ``Module.scope #[main]
  -- the boot
  let names ← mkAppM ``Scope.names #[scope]
  let opE ← mkAppM ``opening #[pE]
  let hOp ← asLem (← mkEq opE (mkApp (mkConst ``plainProg) names)) (← mkEqRefl opE)
  let hFe ← withLocalDeclD `s (mkConst ``Shared) fun s => do
    let r ← mkAppM ``some #[s]
    asLem (← mkForallFVars #[s] (← mkEq (mkApp2 (mkConst ``fenceModules?) pE s) r)) (← mkLambdaFVars #[s] (← mkEqRefl r))
  let hN ← mkDecideProof (← mkEq (mkApp2 (mkConst ``Nat.ble) (mkRawNatLit 600) NE) (mkConst ``Bool.true))
  let open_ := mkAppN (mkConst ``boot_open) #[pE, NE, hOp, hN, hFe]
  let gens0 := mkApp2 (mkConst ``Array.mk [0]) (mkConst ``GenState) (mkApp (mkConst ``List.nil [0]) (mkConst ``GenState))
  let S0 : PySem.W.State := { heap := mkConst ``boot_heap, gens := gens0, drawn := mkConst ``boot_drawn, toks := mkConst ``boot_toks }
  let mut oz : ObRow := #[]
  for i in [0:t.s0.heap.objs.size] do oz := oz.push (t.s0.heap.objs[i]!, t'.s0.heap.objs[i]!, mkConst ((`PySem.W).str s!"boot_o_{i}"))
  -- the text's frame
  let envE ← Term.TermElabM.run' do
    let pS ← Term.exprToSyntax scope
    let cS ← Term.exprToSyntax (toExpr t.code)
    instantiateMVars (← Term.withSynthesize (Term.elabTermEnsuringType (← `(({ scope := $pS, locals := mainNs, globals := mainNs, cells := [], code := $cS, frame := some $(quote t.frame) } : Env))) (mkConst ``Env)))
  let envE ← defAt `henv (mkConst ``Env) envE
  let bE ← mkAppM ``behindTheImports #[pE]
  let some cells ← cellsD? bE | throwError "head: the body"
  let qE := toExpr t.framePos
  let cE := mkApp2 (mkConst ``Code.body) bE envE
  let B := listE (mkConst ``Frame) [mkApp (mkConst ``topFrame) qE]
  let one := natE 1
  let at_ (f : Name) (extra : Array Lean.Expr) (n w s th : Lean.Expr) := mkAppN (mkConst f) (#[tb, pE, w, m0, annE] ++ extra ++ #[n, s, th])
  let stub := mkApp (mkConst ``topStub) pE
  let ended (s pos : Lean.Expr) : MetaM Lean.Expr := do mkAppM ``some #[← mkAppM ``Prod.mk #[mkConst ``Flow.next, ← mkAppM ``Prod.mk #[s, ← mkAppM ``Prod.mk #[cE, pos]]]]
  let oA ← layRow oz t.pre.s t'.pre.s
  let Sa ← rowState oA t.pre.s false
  let th0 := mkApp4 (mkConst ``Thread.mk) (mkApp2 (mkConst ``denote) tb cE) cE (toExpr t.pre.pos) B
  let pre ← eqAll (fun w os => pure (at_ ``topGo #[] (natE t.pre.steps) w (S0.at w os) stub)) fun w os => do mkAppM ``some #[← mkAppM ``Prod.mk #[Sa.at w os, th0]]
  let oB ← layRow oA t.block.s t'.block.s
  let Sb ← rowState oB t.block.s true
  let block ← eqAll (fun w os => pure (at_ ``segRun #[one] (natE t.block.steps.succ) w (Sa.at w os) (mkAppN (mkConst ``blockOf) #[bE, envE, cE, toExpr t.pre.pos, B]))) fun w os => ended (Sb.at w os) (toExpr t.block.pos)
  -- the statements, several at once
  let mut o := oB
  let mut S := Sb
  let mut pos := t.block.pos
  let mut lems := #[]
  let mut i := 0
  let ps := t.pieces.toArray
  let ps' := t'.pieces.toArray
  while i < ps.size do
    let mut j := i + 1
    let stepsAt (k : Nat) : Nat := match ps[k]? with | some x => x.steps | none => 0
    let mut n := stepsAt i
    while j < ps.size && n + stepsAt j ≤ 1200 do
      n := n + stepsAt j
      j := j + 1
    let z0 ← IO.monoMsNow
    let sts ← defAt `hs (mkApp (mkConst ``List [0]) (mkConst ``Stmt)) (listE (mkConst ``Stmt) ((cells.drop i).take (j - i)))
    let (some x, some x') := (ps[j - 1]?, ps'[j - 1]?) | throwError "head: pieces"
    let o' ← layRow o x.s x'.s
    let S' ← rowState o' x.s true
    let (S1, p1) := (S, pos)
    let z1 ← IO.monoMsNow
    let th := mkAppN (mkConst ``piecesOf) #[sts, envE, cE, toExpr p1, B]
    let lem ← liftT (← eqAll (fun w os => pure (at_ ``segRunT #[one] (natE (n + 1)) w (S1.atT w os) th)) fun w os => ended (S'.atT w os) (toExpr x.pos)) ``segRun_of
    let z2 ← IO.monoMsNow
    logInfo m!"group {i} to {j}: {n} steps, {x.s.heap.objs.size} objects, {z1 - z0} and {z2 - z1} ms"
    lems := lems.push (sts, S1, p1, S', x.pos, n + 1, lem)
    o := o'
    S := S'
    pos := x.pos
    i := j
  let oF ← layRow o t.fin.s t'.fin.s
  let Sf ← rowState oF t.fin.s false
  let (Sm, posm) := (S, pos)
  let z0 ← IO.monoMsNow
  let fin ← eqAll (fun w os => pure (at_ ``topRun #[] (natE t.fin.steps.succ) w (Sm.at w os) (mkApp4 (mkConst ``Thread.mk) (mkApp (mkConst ``doneF) (mkConst ``Flow.next)) cE (toExpr posm) B))) fun w os => mkAppM ``some #[Sf.at w os]
  let z1 ← IO.monoMsNow
  logInfo m!"fin {z1 - z0} ms"
  -- one run
  let add (a b : Lean.Expr) := mkApp2 (mkConst ``Nat.add) a b
  let mut M := natE t.fin.steps.succ
  for (_, _, _, _, _, n, _) in lems.toList.reverse do M := add (natE n) M
  let Mb := add (natE t.block.steps.succ) M
  let Mall := add (natE t.pre.steps) Mb
  let run ← withLocalDeclD `w W fun w => withLocalDeclD `os O fun os => do
    let now (l : Lean.Expr) : MetaM Lean.Expr := do mkAppM ``congrFun #[mkApp l w, os]
    let r := Sf.at w os
    let com := #[tb, pE, w, m0, annE, envE, qE]
    let mut k ← now fin
    let mut left := natE t.fin.steps.succ
    let mut rest := listE (mkConst ``Stmt) []
    for (sts, S1, p1, S', p2, n, lem) in lems.toList.reverse do
      k := mkAppN (mkConst ``piece_app) (com ++ #[natE n, left, S1.at w os, S'.at w os, r, sts, rest, cE, toExpr p1, toExpr p2, ← now lem, k])
      left := add (natE n) left
      rest ← mkAppM ``HAppend.hAppend #[sts, rest]
    k := mkAppN (mkConst ``piece_block) (com ++ #[natE t.block.steps.succ, left, Sa.at w os, Sb.at w os, r, bE, cE, toExpr t.pre.pos, toExpr t.block.pos, ← now block, k])
    left := add (natE t.block.steps.succ) left
    k := mkAppN (mkConst ``go_top) (#[tb, pE, w, m0, annE, natE t.pre.steps, left, S0.at w os, Sa.at w os, r, stub, th0, ← now pre, k])
    pure (← mkForallFVars #[w, os] (← mkEq (at_ ``topRun #[] Mall w (S0.at w os) stub) (← mkAppM ``some #[r])), ← mkLambdaFVars #[w, os] k)
  let runL ← asLem run.1 run.2
  let z2 ← IO.monoMsNow
  logInfo m!"run {z2 - z1} ms"
  -- what is behind it
  let e := mkConst ``LeftO.of_pieces
  let (ms, _, _) ← forallMetaTelescope (← inferType e)
  let vals := #[pE, a[1]!, a[2]!, a[3]!, a[4]!, a[5]!, a[6]!, NE, a[8]!, S0.heap, Sf.heap, S0.gens, Sf.gens, S0.drawn, Sf.drawn, S0.toks, Sf.toks, m0, annE, Mall]
  for (m, v) in ms.zip vals do m.mvarId!.assign v
  let size ← byK (← instantiateMVars (← inferType ms[21]!))
  let le ← mkDecideProof (← instantiateMVars (← inferType ms[23]!))
  let lT ← instantiateMVars (← inferType ms[24]!)
  let .forallE _ _ bd _ := lT | throwError "head: looks"
  let (l, r) ← withLocalDeclD `w W fun w => do
    let some (_, l, r) := (bd.instantiate1 w).eq? | throwError "head: looks"
    pure (← mkLambdaFVars #[w] l, ← mkLambdaFVars #[w] r)
  let h ← seenParts 12 l r
  let looks ← withLocalDeclD `w W fun w => do
    let f ← withLocalDeclD `os O fun os => do mkLambdaFVars #[os] (mkApp2 h w os)
    mkLambdaFVars #[w] (← mkAppM ``funext #[f])
  let z3 ← IO.monoMsNow
  logInfo m!"looks {z3 - z2} ms"
  g.assign (mkAppN e (vals ++ #[open_, size, runL, le, looks]))

def lookTac : TacticM Unit := do
  let g ← getMainGoal
  g.withContext do
    let ty := (← instantiateMVars (← g.getType)).consumeMData
    let some (_, l, _) := ty.eq? | throwError "look: {ty}"
    g.assign (← lookSplit l)
    replaceMainGoal []
def headTac : TacticM Unit := withMainContext do
  let ty ← whnfR (← instantiateMVars (← getMainTarget))
  unless ty.isAppOfArity ``OpenRow.Holds 1 do throwError "head: {ty}"
  let r ← mkAppM ``OpenRow.toRowW #[ty.appArg!]
  let p ← progOf pE
  let nm (x : PySem.Str) := mkApp (mkConst ``PySem.Str.ofString) (mkStrLit x.toString)
  let main ← whnfD (← mkAppM ``Program.main #[pE])
  let some cells ← cellsD? (← mkAppM ``Module.body #[main]) | throwError "the text's body"
  let keep := [cells.length - 1]
  let some (h, _) ← twoRuns p | throwError "no top"
  let loose := (h.nsKeys mainGlobals).eraseDups.filter fun k => !startupNames.contains k && k.toString != "law"
  let body ← mkListLit (mkConst ``Stmt) (keep.filterMap fun i => cells[i]?)
  let bS ← Term.exprToSyntax body
  let pS ← Term.exprToSyntax pE
  let qV ← instantiateMVars (← Term.elabTerm (← `(({ $pS with main := { ($pS).main with body := $bS } } : Program))) none)
  let q ← mkAuxDefinition (← mkAuxDeclName `view) (mkConst ``Program) qV (compile := false)
  let looseE ← mkListLit (mkConst ``PySem.Str) (loose.map nm)
  let lvE ← mkListLit (← mkAppM ``Prod #[mkConst ``PySem.Str, mkConst ``WData]) []
  let rS ← Term.exprToSyntax r
  let (qS, lS, vS) := (← Term.exprToSyntax q, ← Term.exprToSyntax looseE, ← Term.exprToSyntax lvE)
  let nS := Syntax.mkNumLit "20000"
  let (hl, hw, hc) := (mkIdent `hl, mkIdent `hw, mkIdent `hc)
  withoutRecover (evalTactic (← `(tactic|
    refine holds_openX (q := $qS) (loose := $lS) (Xt := fun s => xlAt $qS $vS s && recOk (RowW.records $rS) s) (XP := XL $qS $vS) (Yf := seenOf) (Ya := seenIs) (N := $nS) ?$hl (fun s e => xl_of s (Bool.and_eq_true_iff.mp e).1) XL.keeps (by rfl) (by rfl) (by rfl) (fun s e => recFacts_of (Bool.and_eq_true_iff.mp e).2) (by rfl) (by first | assumption | decide +kernel) (by decide +kernel) ⟨rfl, rfl, rfl, rfl, rfl, by run_tac lookTac⟩ ?$hw ?$hc)))
  let gs ← getGoals
  let mut rest := []
  for g in gs do
    if (← g.getTag).eraseMacroScopes == `hl then leftOwn g
    else rest := rest ++ [← g.tryClearMany ((← getLCtx).getFVarIds)]
  setGoals rest
end Mine

open PySem PySem.W PySem.W.X PyProof.Rows
theorem PySem.Challenge.cw_ft0028_01_holds : PySem.Challenge.rw_ft0028_01.Holds := by
  w_on; o_law; run_tac Mine.headTac
  case hw => w_witness2
  exact Mine.walk_ok _ _ _ _ rfl _
