import PyProof.Rows.All
import Wide.All
import OpenK.AllK
import Wide.FinOn
import KE.KPar
import KE.KLam
import KE.KSortKey
import Lean
import PySem.Challenge.RW_mr0137_01
section
open PySem PySem.W PySem.W.X PyProof.Rows
set_option Elab.async false
set_option maxRecDepth 100000
set_option maxHeartbeats 8000000
namespace Mine
def addrs : List Nat := [0, 2, 3, 4, 15, 16, 22, 23, 24, 25, 31, 32, 34, 38, 39, 45, 46, 48, 52, 53, 59, 60, 62, 66, 67, 73, 74, 78, 79, 83, 84, 88, 89, 91, 93, 94]
def tabs : List Nat := [34, 48, 62, 91]
open Lean Meta Elab Tactic in
noncomputable def K : Params → Frag := by
  run_tac do
    let p ← progOf (mkConst ``PySem.Challenge.pw_mr0137_01)
    let some (h, h') ← twoRuns p | throwError "top"
    let pr := mkApp2 (mkConst ``Prod [0, 0]) (mkConst ``Nat) (mkConst ``Obj)
    let v ← withLocalDeclD `P (mkConst ``Params) fun q => do
      let fr ← ((xFragOf q (some "law") h h').filter fun (a, _, _) => addrs.contains a).mapM fun (a, _, e) => do
        let e ← match ← ZFast.quick e with | some (e', _) => pure e' | none => pure e
        let c ← defAt `zo (← mkArrow (mkConst ``Params) (mkConst ``Obj)) (← mkLambdaFVars #[q] e)
        return mkApp4 (mkConst ``Prod.mk [0, 0]) (mkConst ``Nat) (mkConst ``Obj) (mkRawNatLit a) (mkApp c q)
      mkLambdaFVars #[q] (listE pr fr)
    (← getMainGoal).assign v
open Lean Meta Elab Tactic in
noncomputable def kt : Params → KT := by
  run_tac do
    let v ← withLocalDeclD `P (mkConst ``Params) fun q => do
      let mut l ← XRun.kw (mkApp (mkConst ``K) q)
      let mut xs : List (Nat × Name) := []
      while l.isAppOfArity ``List.cons 3 do
        let x := l.getAppArgs[1]!
        let some a := (← XRun.kw x.getAppArgs[2]!).rawNatLit? | throwError "a"
        unless tabs.contains a do
          xs := (a, x.getAppArgs[3]!.getAppFn.constName!) :: xs
        l ← XRun.kw l.getAppArgs[2]!
      mkLambdaFVars #[q] (← ZRun.ktE q xs.reverse)
    (← getMainGoal).assign v
local macro_rules | `(tactic| k_head) => `(tactic| o_head (kHook K addrs (fun _ => by kernel_rfl)))
open_top hd for PySem.Challenge.rw_mr0137_01
end Mine
end
section
open PySem PySem.W PySem.W.X PyProof.Rows
set_option Elab.async false
set_option maxRecDepth 100000
set_option maxHeartbeats 4000000
namespace Mine

/-- the fixed part of a run: the program, what is around, and what is wanted at its end -/
structure SB where
  prog : Program
  w : World
  A₀ : Around
  Q₀ : Fin → Shared → Prop
  E₀ : Value → Shared → Prop
  R₀ : Result → Shared → Prop

inductive SK where
  | base
  | top
  | ret (c : Code) (hd : Option Value) (k : Result → Sem Fin) (κ : SK)

def SB.A (B : SB) : SK → Around
  | .base => B.A₀
  | .top => B.A₀
  | .ret c hd _ κ => ((B.A κ).under c).mark hd

def SB.QE (B : SB) : SK → (Fin → Shared → Prop) × (Value → Shared → Prop)
  | .base => (B.Q₀, B.E₀)
  | .top => (postC B.prog B.w B.A₀ B.R₀, postE B.R₀)
  | .ret c hd k κ => (postC B.prog B.w (((B.A κ).under c).mark hd) (postR B.prog B.w (B.A κ) c (B.QE κ).1 (B.QE κ).2 k), postE (postR B.prog B.w (B.A κ) c (B.QE κ).1 (B.QE κ).2 k))

def Means (B : SB) (c : Code) (κ : SK) (t : Sem Fin) (s : Shared) : Prop :=
  wpOwn (model B.prog B.w) (B.A κ) c t (B.QE κ).1 (B.QE κ).2 s

/-- what a run knows of the memory at its start -/
structure SM where
  h₀ : Heap
  N : Nat
  nw : Nat → Addr
  kt : KT
  mu : List Addr
  ro : List (Addr × Obj)
  t₀ : Nat
  g : Array GenState
  d : Drawn
  os : OsState

def adOf : List Addr → (Nat → Addr) → Nat → Addr
  | [], N, i => N i
  | a :: l, N, i => match i with
    | 0 => a
    | i + 1 => adOf l N i
def SM.ad (M : SM) (i : Nat) : Addr := adOf M.mu M.nw i
def roOf : List (Addr × Obj) → Nat → Option (Addr × Obj)
  | [], _ => none
  | p :: l, i => match i with
    | 0 => some p
    | i + 1 => roOf l i

structure SM.Ok (M : SM) : Prop where
  nw : ∀ j, M.nw j = M.N + j
  size : M.h₀.objs.size = M.N
  kt : ∀ a o, M.kt.get a = some o → M.h₀.get? a = some o ∧ a ∉ M.mu
  ro : ∀ p ∈ M.ro, M.h₀.get? p.1 = some p.2 ∧ p.1 ∉ M.mu
  nd : M.mu.Nodup
  lt : ∀ a ∈ M.mu, a < M.N

structure RepS (M : SM) (h : Heap) (T : BT) (m : Nat) : Prop where
  size : h.objs.size = M.N + m
  own : ∀ i o, T.get i = some o → i < M.mu.length + m ∧ h.get? (M.ad i) = some o
  keep : ∀ b o, M.h₀.get? b = some o → b ∉ M.mu → h.get? b = some o

theorem adOf_new : ∀ (l : List Addr) (N : Nat → Addr) (i : Nat), adOf l N (l.length + i) = N i
  | [], N, i => by simp [adOf]
  | a :: l, N, i => by
    have : (a :: l).length + i = (l.length + i) + 1 := by simp; omega
    rw [this]; exact adOf_new l N i
theorem adOf_old : ∀ (l : List Addr) (N : Nat → Addr) (i : Nat), i < l.length → ∃ h : i < l.length, adOf l N i = l[i]
  | [], _, _, h => by cases h
  | a :: l, N, 0, _ => ⟨by simp, rfl⟩
  | a :: l, N, i + 1, h => by
    obtain ⟨h', e⟩ := adOf_old l N i (by simpa using h)
    exact ⟨h, e⟩
theorem SM.Ok.ad_ne {M : SM} (O : M.Ok) {i j : Nat} (h : i ≠ j) : M.ad i ≠ M.ad j := by
  have key : ∀ i j, i < j → M.ad i ≠ M.ad j := by
    intro i j hij e
    unfold SM.ad at e
    by_cases hj : j < M.mu.length
    · obtain ⟨h1, e1⟩ := adOf_old M.mu M.nw i (by omega)
      obtain ⟨h2, e2⟩ := adOf_old M.mu M.nw j hj
      rw [e1, e2] at e
      have := (List.getElem_inj O.nd).mp e
      omega
    · obtain ⟨k, rfl⟩ := Nat.exists_eq_add_of_le (Nat.le_of_not_lt hj)
      rw [adOf_new] at e
      by_cases hi : i < M.mu.length
      · obtain ⟨h1, e1⟩ := adOf_old M.mu M.nw i hi
        rw [e1] at e
        have hl := O.lt _ (List.getElem_mem h1)
        rw [e, O.nw] at hl
        exact absurd hl (Nat.not_lt.mpr (Nat.le_add_right _ _))
      · obtain ⟨k', rfl⟩ := Nat.exists_eq_add_of_le (Nat.le_of_not_lt hi)
        rw [adOf_new, O.nw, O.nw] at e
        have := Nat.add_left_cancel e
        omega
  rcases Nat.lt_or_gt_of_ne h with h | h
  · exact key i j h
  · exact fun e => key j i h e.symm
theorem SM.Ok.ad_mem {M : SM} {i : Nat} (h : i < M.mu.length) : M.ad i ∈ M.mu := by
  obtain ⟨h1, e1⟩ := adOf_old M.mu M.nw i h
  unfold SM.ad; rw [e1]; exact List.getElem_mem h1
theorem SM.Ok.ne_old {M : SM} (O : M.Ok) {i : Nat} {b : Addr} {o : Obj} (e : M.h₀.get? b = some o) (hb : b ∉ M.mu) : b ≠ M.ad i := by
  intro z
  by_cases hi : i < M.mu.length
  · exact hb (z ▸ SM.Ok.ad_mem hi)
  · obtain ⟨k, rfl⟩ := Nat.exists_eq_add_of_le (Nat.le_of_not_lt hi)
    have : M.ad (M.mu.length + k) = M.N + k := (adOf_new _ _ _).trans (O.nw k)
    have hl := Heap.lt_size e
    rw [O.size, z, this] at hl
    exact absurd hl (Nat.not_lt.mpr (Nat.le_add_right _ _))

section
variable {M : SM} {h : Heap} {T : BT} {m : Nat}
theorem RepS.alloc (O : M.Ok) (D : RepS M h T m) {o : Obj} (hf : o.isFreed = false) (hg : ((T.ins (M.mu.length + m) o).get (M.mu.length + m)).isSome = true) : RepS M (h.push o) (T.ins (M.mu.length + m) o) (m + 1) := by
  refine ⟨by rw [Heap.size_push, D.size, Nat.add_assoc], fun i o' e => ?_, fun b o' e q => Heap.get?_push_of_some _ (D.keep b o' e q)⟩
  rw [BT.get_ins o T _ hg] at e
  by_cases hi : i = M.mu.length + m
  · subst hi
    rw [if_pos rfl] at e
    cases e
    refine ⟨by omega, ?_⟩
    have : M.ad (M.mu.length + m) = h.objs.size := by rw [D.size]; exact (adOf_new _ _ _).trans (O.nw m)
    rw [this]; exact Heap.get?_push_size _ hf
  · rw [if_neg hi] at e
    have z := D.own i o' e
    exact ⟨by omega, Heap.get?_push_of_some _ z.2⟩
theorem RepS.update (O : M.Ok) (D : RepS M h T m) {i : Nat} {o : Obj} {f : Obj → Obj} (e : T.get i = some o) (hf : (f o).isFreed = false) : RepS M (h.update (M.ad i) f) (T.set i f) m := by
  have z := D.own _ _ e
  have hs : Heap.SameBut (M.ad i) h (h.update (M.ad i) f) := Heap.SameBut.update ..
  refine ⟨by rw [hs.1, D.size], fun j o' e' => ?_, fun b o' e' q => ?_⟩
  · rw [BT.get_set] at e'
    by_cases hi : j = i
    · subst hi
      rw [if_pos rfl, e] at e'
      cases e'
      refine ⟨z.1, ?_⟩
      first | exact Heap.get?_update_self f z.2 hf | exact Heap.get?_update_self _ z.2 hf
    · rw [if_neg hi] at e'
      have y := D.own j o' e'
      exact ⟨y.1, (hs.2 _ (O.ad_ne hi)).trans y.2⟩
  · exact (hs.2 b (O.ne_old e' q)).trans (D.keep b o' e' q)
end

def den : Code → Sem Fin := denote table

/-- what is left of a run -/
def res (B : SB) (M : SM) (c : Code) (κ : SK) (t : Sem Fin) (T : BT) (m i : Nat) (ob : List (Addr × Addr)) : Prop :=
  ob.map (·.1) = ob.map (·.2) ∧ ∀ h, RepS M h T m → Means B c κ t ⟨h, M.g, M.d, M.t₀ + i, M.os⟩

def pick (M : SM) (T : BT) (d : Nat) (a : Addr) : Option (Obj × Option (Addr × Addr)) := match Nat.ble 2 d with
  | false => match Nat.beq d 1 with
    | true => match M.kt.get a with
      | some o => some (o, none)
      | none => none
    | false => none
  | true => match Nat.ble 2050 d with
    | false => match T.get (d - 2) with
      | some o => some (o, some (a, M.ad (d - 2)))
      | none => none
    | true => match roOf M.ro (d - 2050) with
      | some p => some (p.2, some (a, p.1))
      | none => none

def addOb (ob : List (Addr × Addr)) : Option (Addr × Addr) → List (Addr × Addr)
  | none => ob
  | some p => p :: ob

/-- a run of at most n operations; hs tells of each look into the memory which part it meets -/
def simS (dn : Code → Sem Fin) (B : SB) (M : SM) : Nat → Nat → Code → SK → Sem Fin → BT → Nat → Nat → List (Addr × Addr) → Prop
  | 0, _, c, κ, t, T, m, i, ob => res B M c κ t T m i ob
  | n + 1, hs, c, κ, t, T, m, i, ob => match t with
    | .pure fin => match κ with
      | .base => res B M c κ (.pure fin) T m i ob
      | .top => match fin with
        | .done f => res B M c κ (.pure (.done f)) T m i ob
        | .again c' => match c'.quiet with
          | true => simS dn B M n hs c' .top (dn c') T m i ob
          | false => res B M c κ (.pure (.again c')) T m i ob
      | .ret c₁ hd k κ' => match fin with
        | .done f => simS dn B M n hs c₁ κ' (k (.ok f)) T m i ob
        | .again c' => match c'.quiet with
          | true => simS dn B M n hs c' (.ret c₁ hd k κ') (dn c') T m i ob
          | false => res B M c κ (.pure (.again c')) T m i ob
    | .raise e => match κ with
      | .base => res B M c κ (.raise e) T m i ob
      | .top => res B M c κ (.raise e) T m i ob
      | .ret c₁ _ k κ' => simS dn B M n hs c₁ κ' (k (.error e)) T m i ob
    | .rule _ k => simS dn B M n hs c κ (k ()) T m i ob
    | .at _ k => simS dn B M n hs c κ (k ()) T m i ob
    | .point _ k => simS dn B M n hs c κ (k ()) T m i ob
    | .ask k => simS dn B M n hs c κ (k ⟨B.prog, B.w.params⟩) T m i ob
    | .load a q k => match pick M T (hs % 4096) a with
      | some p => simS dn B M n (hs / 4096) c κ (k p.1) T m i (addOb ob p.2)
      | none => res B M c κ (.load a q k) T m i ob
    | .loadIfAlive a k => match pick M T (hs % 4096) a with
      | some p => simS dn B M n (hs / 4096) c κ (k (some p.1)) T m i (addOb ob p.2)
      | none => res B M c κ (.loadIfAlive a k) T m i ob
    | .alloc o k => match o.isFreed with
      | true => res B M c κ (.alloc o k) T m i ob
      | false => match (T.ins (M.mu.length + m) o).get (M.mu.length + m) with
        | some _ => simS dn B M n hs c κ (k (M.ad (M.mu.length + m))) (T.ins (M.mu.length + m) o) (m + 1) i ob
        | none => res B M c κ (.alloc o k) T m i ob
    | .update a q f k => match Nat.ble 2 (hs % 4096) with
      | true => match T.get (hs % 4096 - 2) with
        | some o => match (f o).isFreed with
          | false => simS dn B M n (hs / 4096) c κ (k ()) (T.set (hs % 4096 - 2) f) m i ((a, M.ad (hs % 4096 - 2)) :: ob)
          | true => res B M c κ (.update a q f k) T m i ob
        | none => res B M c κ (.update a q f k) T m i ob
      | false => res B M c κ (.update a q f k) T m i ob
    | .fresh k => simS dn B M n hs c κ (k (M.t₀ + i)) T m (i + 1) ob
    | .handled own k => match own with
      | false => simS dn B M n hs c κ (k (B.A κ).handled) T m i ob
      | true => res B M c κ (.handled true k) T m i ob
    | .call c' hd gd l k => match okMark hd with
      | true => simS dn B M n hs c' (.ret c hd k κ) (dn c') T m i ob
      | false => res B M c κ (.call c' hd gd l k) T m i ob
    | t => res B M c κ t T m i ob

theorem pick_get {M : SM} (O : M.Ok) {h : Heap} {T : BT} {m : Nat} (D : RepS M h T m) {d : Nat} {a : Addr} {p : Obj × Option (Addr × Addr)} (e : pick M T d a = some p) (ho : ∀ q, p.2 = some q → q.1 = q.2) : h.get? a = some p.1 := by
  unfold pick at e
  split at e
  · split at e
    · split at e
      · rename_i o eo
        cases e
        exact D.keep a o (O.kt a o eo).1 (O.kt a o eo).2
      · cases e
    · cases e
  · split at e
    · split at e
      · rename_i o eo
        cases e
        have : a = M.ad (d - 2) := ho _ rfl
        rw [this]; exact (D.own _ _ eo).2
      · cases e
    · split at e
      · rename_i q eq
        cases e
        have hq : q ∈ M.ro := by
          clear ho
          generalize M.ro = l at eq
          generalize d - 2050 = j at eq
          induction l generalizing j with
          | nil => cases eq
          | cons x l ih =>
            cases j with
            | zero => cases eq; exact .head _
            | succ j => exact .tail _ (ih j eq)
        have : a = q.1 := ho _ rfl
        rw [this]; exact D.keep _ _ (O.ro q hq).1 (O.ro q hq).2
      · cases e

/-- what a run hands on: its notes of addresses only grow -/
def Notes (ob : List (Addr × Addr)) : Prop := ∀ p ∈ ob, p.1 = p.2
theorem notes_of {ob : List (Addr × Addr)} (h : ob.map (·.1) = ob.map (·.2)) : Notes ob := by
  intro p hp
  induction ob with
  | nil => cases hp
  | cons x l ih =>
    simp only [List.map_cons, List.cons.injEq] at h
    cases List.mem_cons.mp hp with
    | inl e => rw [e]; exact h.1
    | inr e => exact ih h.2 e

theorem notes_add {ob : List (Addr × Addr)} {q : Option (Addr × Addr)} (h : Notes (addOb ob q)) : Notes ob := by
  cases q with
  | none => exact h
  | some q => exact fun p hp => h p (.tail _ hp)
theorem notes_tail {ob : List (Addr × Addr)} {q : Addr × Addr} (h : Notes (q :: ob)) : Notes ob := fun p hp => h p (.tail _ hp)
section
variable {dn : Code → Sem Fin} {B : SB} {M : SM} {n hs : Nat} {c : Code} {κ : SK} {T : BT} {m i : Nat} {ob : List (Addr × Addr)}
/-- a run's step, one for each kind -/
theorem s_again {c' : Code} {P : Prop} (h : match c'.quiet with | true => simS dn B M n hs c' κ (dn c') T m i ob | false => res B M c κ (.pure (.again c')) T m i ob) (h1 : c'.quiet = true → simS dn B M n hs c' κ (dn c') T m i ob → P) (h2 : res B M c κ (.pure (.again c')) T m i ob → P) : P := by
  cases q : c'.quiet with
  | true => rw [q] at h; exact h1 q h
  | false => rw [q] at h; exact h2 h
theorem s_pick {d : Nat} {a : Addr} {K : Obj → Sem Fin} {t : Sem Fin} {P : Prop} (h : match pick M T d a with | some p => simS dn B M n hs c κ (K p.1) T m i (addOb ob p.2) | none => res B M c κ t T m i ob)
    (h1 : ∀ p, pick M T d a = some p → simS dn B M n hs c κ (K p.1) T m i (addOb ob p.2) → P) (h2 : res B M c κ t T m i ob → P) : P := by
  cases q : pick M T d a with
  | some p => rw [q] at h; exact h1 p q h
  | none => rw [q] at h; exact h2 h
theorem s_alloc {o : Obj} {k : Addr → Sem Fin} {P : Prop} (h : simS dn B M (n + 1) hs c κ (.alloc o k) T m i ob)
    (h1 : o.isFreed = false → ((T.ins (M.mu.length + m) o).get (M.mu.length + m)).isSome = true → simS dn B M n hs c κ (k (M.ad (M.mu.length + m))) (T.ins (M.mu.length + m) o) (m + 1) i ob → P) (h2 : res B M c κ (.alloc o k) T m i ob → P) : P := by
  have h' : (match o.isFreed with
      | true => res B M c κ (.alloc o k) T m i ob
      | false => match (T.ins (M.mu.length + m) o).get (M.mu.length + m) with
        | some _ => simS dn B M n hs c κ (k (M.ad (M.mu.length + m))) (T.ins (M.mu.length + m) o) (m + 1) i ob
        | none => res B M c κ (.alloc o k) T m i ob) := h
  cases q : o.isFreed with
  | true => rw [q] at h'; exact h2 h'
  | false =>
    rw [q] at h'
    cases e : (T.ins (M.mu.length + m) o).get (M.mu.length + m) with
    | some o' => exact h1 q (by rw [e]; rfl) (by simpa only [e] using h')
    | none => exact h2 (by simpa only [e] using h')
theorem s_update {a : Addr} {q : Option Value} {f : Obj → Obj} {k : Unit → Sem Fin} {P : Prop} (h : simS dn B M (n + 1) hs c κ (.update a q f k) T m i ob)
    (h1 : ∀ o, T.get (hs % 4096 - 2) = some o → (f o).isFreed = false → simS dn B M n (hs / 4096) c κ (k ()) (T.set (hs % 4096 - 2) f) m i ((a, M.ad (hs % 4096 - 2)) :: ob) → P) (h2 : res B M c κ (.update a q f k) T m i ob → P) : P := by
  have h' : (match Nat.ble 2 (hs % 4096) with
      | true => match T.get (hs % 4096 - 2) with
        | some o => match (f o).isFreed with
          | false => simS dn B M n (hs / 4096) c κ (k ()) (T.set (hs % 4096 - 2) f) m i ((a, M.ad (hs % 4096 - 2)) :: ob)
          | true => res B M c κ (.update a q f k) T m i ob
        | none => res B M c κ (.update a q f k) T m i ob
      | false => res B M c κ (.update a q f k) T m i ob) := h
  cases q1 : Nat.ble 2 (hs % 4096) with
  | false => rw [q1] at h'; exact h2 h'
  | true =>
    rw [q1] at h'
    cases e : T.get (hs % 4096 - 2) with
    | none => exact h2 (by simpa only [e] using h')
    | some o =>
      cases z : (f o).isFreed with
      | true => exact h2 (by simpa only [e, z] using h')
      | false => exact h1 o e z (by simpa only [e, z] using h')
theorem s_call {c' : Code} {hd : Option Value} {gd : Bool} {l : List Value} {k : Result → Sem Fin} {P : Prop} (h : simS dn B M (n + 1) hs c κ (.call c' hd gd l k) T m i ob)
    (h1 : okMark hd = true → simS dn B M n hs c' (.ret c hd k κ) (dn c') T m i ob → P) (h2 : res B M c κ (.call c' hd gd l k) T m i ob → P) : P := by
  have h' : (match okMark hd with
      | true => simS dn B M n hs c' (.ret c hd k κ) (dn c') T m i ob
      | false => res B M c κ (.call c' hd gd l k) T m i ob) := h
  cases q : okMark hd with
  | true => rw [q] at h'; exact h1 q h'
  | false => rw [q] at h'; exact h2 h'
end
theorem simS_notes (dn : Code → Sem Fin) (B : SB) (M : SM) : ∀ (n hs : Nat) (c : Code) (κ : SK) (t : Sem Fin) (T : BT) (m i : Nat) (ob : List (Addr × Addr)), simS dn B M n hs c κ t T m i ob → Notes ob := by
  have hr : ∀ {c κ t T m i ob}, res B M c κ t T m i ob → Notes ob := fun h => notes_of h.1
  intro n
  induction n with
  | zero => intro hs c κ t T m i ob h; exact hr h
  | succ n ih =>
    intro hs c κ t T m i ob h
    cases t with
    | pure fin =>
      cases κ with
      | base => exact hr h
      | top =>
        cases fin with
        | done f => exact hr h
        | again c' => exact s_again h (fun _ h => ih _ _ _ _ _ _ _ _ h) hr
      | ret c₁ hd k κ' =>
        cases fin with
        | done f => exact ih _ _ _ _ _ _ _ _ h
        | again c' => exact s_again h (fun _ h => ih _ _ _ _ _ _ _ _ h) hr
    | raise e =>
      cases κ with
      | base => exact hr h
      | top => exact hr h
      | ret c₁ hd k κ' => exact ih _ _ _ _ _ _ _ _ h
    | rule tag k => exact ih _ _ _ _ _ _ _ _ h
    | «at» q k => exact ih _ _ _ _ _ _ _ _ h
    | point l k => exact ih _ _ _ _ _ _ _ _ h
    | ask k => exact ih _ _ _ _ _ _ _ _ h
    | load a q k => exact s_pick h (fun p _ h => notes_add (ih _ _ _ _ _ _ _ _ h)) hr
    | loadIfAlive a k => exact s_pick (K := fun o => k (some o)) h (fun p _ h => notes_add (ih _ _ _ _ _ _ _ _ h)) hr
    | alloc o k => exact s_alloc h (fun _ _ h => ih _ _ _ _ _ _ _ _ h) hr
    | update a q f k => exact s_update h (fun _ _ _ h => notes_tail (ih _ _ _ _ _ _ _ _ h)) hr
    | fresh k => exact ih _ _ _ _ _ _ _ _ h
    | handled own k =>
      cases own with
      | true => exact hr h
      | false => exact ih _ _ _ _ _ _ _ _ h
    | call c' hd gd l k => exact s_call h (fun _ h => ih _ _ _ _ _ _ _ _ h) hr
    | unsupported => exact hr h
    | finish => exact hr h
    | register => exact hr h
    | choose => exact hr h
    | os => exact hr h
    | newGen => exact hr h
    | genState => exact hr h
    | resume => exact hr h
    | yield => exact hr h
    | stack => exact hr h
    | fork => exact hr h
    | thread => exact hr h
    | await => exact hr h

theorem simS_sound (dn : Code → Sem Fin) (hdn : denote table = dn) (B : SB) (M : SM) (O : M.Ok) : ∀ (n hs : Nat) (c : Code) (κ : SK) (t : Sem Fin) (T : BT) (m i : Nat) (ob : List (Addr × Addr)),
    simS dn B M n hs c κ t T m i ob → ∀ h, RepS M h T m → Means B c κ t ⟨h, M.g, M.d, M.t₀ + i, M.os⟩ := by
  subst hdn
  intro n
  induction n with
  | zero => intro hs c κ t T m i ob H h D; exact H.2 h D
  | succ n ih =>
    intro hs c κ t T m i ob H h D
    have fin : ∀ {c κ t T m i ob}, RepS M h T m → res B M c κ t T m i ob → Means B c κ t ⟨h, M.g, M.d, M.t₀ + i, M.os⟩ := fun D H => H.2 h D
    cases t with
    | pure fin' =>
      cases κ with
      | base => exact fin D H
      | top =>
        cases fin' with
        | done f => exact fin D H
        | again c' => exact s_again H (fun q H => y_pure _ _ _ _ _ _ _ _ _ (y_again _ _ _ _ _ _ q (y_code _ _ _ _ _ _ (ih _ _ _ _ _ _ _ _ H h D)))) (fin D)
      | ret c₁ hd k κ' =>
        cases fin' with
        | done f => exact y_pure _ _ _ _ _ _ _ _ _ (ih _ _ _ _ _ _ _ _ H h D)
        | again c' => exact s_again H (fun q H => y_pure _ _ _ _ _ _ _ _ _ (y_again _ _ _ _ _ _ q (y_code _ _ _ _ _ _ (ih _ _ _ _ _ _ _ _ H h D)))) (fin D)
    | raise e =>
      cases κ with
      | base => exact fin D H
      | top => exact fin D H
      | ret c₁ hd k κ' => exact y_raise _ _ _ _ _ _ _ _ _ (ih _ _ _ _ _ _ _ _ H h D)
    | rule tag k => exact y_skim _ _ _ _ _ _ _ _ _ 1 (ih _ _ _ _ _ _ _ _ H h D)
    | «at» q k => exact y_skim _ _ _ _ _ _ _ _ _ 1 (ih _ _ _ _ _ _ _ _ H h D)
    | point l k => exact y_skim _ _ _ _ _ _ _ _ _ 1 (ih _ _ _ _ _ _ _ _ H h D)
    | ask k => exact y_skim _ _ _ _ _ _ _ _ _ 1 (ih _ _ _ _ _ _ _ _ H h D)
    | load a q k => exact s_pick H (fun p e H => y_load _ _ _ _ _ _ _ _ _ _ _ _ _ _ _ _ (pick_get O D e fun q' hq => simS_notes _ _ _ _ _ _ _ _ _ _ _ _ H q' (by rw [hq]; exact .head _)) (ih _ _ _ _ _ _ _ _ H h D)) (fin D)
    | loadIfAlive a k => exact s_pick (K := fun o => k (some o)) H (fun p e H => y_alive _ _ _ _ _ _ _ _ _ _ _ _ _ _ _ (pick_get O D e fun q' hq => simS_notes _ _ _ _ _ _ _ _ _ _ _ _ H q' (by rw [hq]; exact .head _)) (ih _ _ _ _ _ _ _ _ H h D)) (fin D)
    | alloc o k =>
      refine s_alloc H (fun hf e H => ?_) (fin D)
      have z := ih _ _ _ _ _ _ _ _ H (h.push o) (D.alloc O hf e)
      have ea : M.ad (M.mu.length + m) = h.objs.size := by rw [D.size]; exact (adOf_new _ _ _).trans (O.nw m)
      rw [ea] at z
      exact wpOwn_bind (m := alloc o) (f := k) (wpOwn_of_wpAny (wpAny_alloc z))
    | update a q f k =>
      refine s_update H (fun o e hf H => ?_) (fin D)
      have ea : a = M.ad (hs % 4096 - 2) := simS_notes _ _ _ _ _ _ _ _ _ _ _ _ H (_, _) (.head _)
      have z := ih _ _ _ _ _ _ _ _ H _ (D.update O e hf)
      subst ea
      exact wpOwn_bind (m := updatePart _ q f) (f := k) (wpOwn_of_wpAny (wpAny_updatePart (D.own _ _ e).2 z))
    | fresh k => exact y_fresh _ _ _ _ _ _ _ _ _ _ _ _ _ (ih _ _ _ _ _ _ _ _ H h D)
    | handled own k =>
      cases own with
      | true => exact fin D H
      | false => exact y_handled _ _ _ _ _ _ _ _ _ (ih _ _ _ _ _ _ _ _ H h D)
    | call c' hd gd l k =>
      refine s_call H (fun q H => ?_) (fin D)
      have hnb : hd ≠ some byPass := by
        intro e
        subst e
        simp [okMark] at q
      exact y_call _ _ _ _ _ _ _ _ _ _ _ _ _ hnb (y_code _ _ _ _ _ _ (ih _ _ _ _ _ _ _ _ H h D))
    | unsupported => exact fin D H
    | finish => exact fin D H
    | register => exact fin D H
    | choose => exact fin D H
    | os => exact fin D H
    | newGen => exact fin D H
    | genState => exact fin D H
    | resume => exact fin D H
    | yield => exact fin D H
    | stack => exact fin D H
    | fork => exact fin D H
    | thread => exact fin D H
    | await => exact fin D H
end Mine
end
section
open PySem PySem.W PySem.W.X PyProof.Rows
set_option Elab.async false
set_option maxRecDepth 100000
set_option maxHeartbeats 4000000
namespace Mine
abbrev prg : Program := PySem.Challenge.rw_mr0137_01.row.toRowW.prog
open Lean Meta Elab Tactic in
noncomputable def denQ : Code → Sem Fin := by
  run_tac do
    let some (e, _) ← ZFast.quick (mkApp (mkConst ``denote) (mkConst ``table)) | throwError "no twin"
    (← getMainGoal).assign e
open Lean Meta Elab Tactic in
theorem denQ_eq : denote table = denQ := by
  run_tac do
    let some (_, h) ← ZFast.quick (mkApp (mkConst ``denote) (mkConst ``table)) | throwError "no twin"
    (← getMainGoal).assign h

theorem means_stack (B : SB) (c : Code) (κ : SK) (s : Shared) (k : List (Code × Pos) → Sem Fin) (x : ∀ (p : Pos) (below : List (Code × Pos)), Lies ((B.A κ).under c) ((c, p) :: below) → Means B c κ (k ((c, p) :: below)) s) : Means B c κ (.stack k) s :=
  y_stack _ _ _ _ _ _ _ _ _ x
def KtIn (t : KT) (h : Heap) : Prop := ∀ a o, t.get a = some o → h.get? a = some o
theorem KtIn.keeps {t : KT} {h h' : Heap} (k : KtIn t h) (q : ∀ b o, h.get? b = some o → h'.get? b = some o) : KtIn t h' := fun a o e => q a o (k a o e)

def Facts (h : Heap) : List (Addr × Obj) → Prop
  | [] => True
  | p :: l => h.get? p.1 = some p.2 ∧ Facts h l
def tagOf (o : Obj) : Nat := match o.data with
  | .plain => 0 | .prim _ => 1 | .seq .. => 2 | .dict .. => 3 | .set .. => 4 | .bytearray .. => 5 | .cell _ => 6 | .func _ => 7 | .cls _ => 8 | .fields _ => 9 | .freed => 10
theorem ne_tag {h : Heap} {a b : Addr} {o o' : Obj} (ha : h.get? a = some o) (hb : h.get? b = some o') (ht : Nat.beq (tagOf o) (tagOf o') = false) : a ≠ b := by
  rintro rfl
  have : o = o' := Option.some.inj (ha.symm.trans hb)
  subst this
  rw [Nat.beq_refl] at ht; cases ht
theorem nw_ex (n : Nat) : ∃ f : Nat → Addr, ∀ j, f j = n + j := ⟨fun j => n + j, fun _ => rfl⟩

/-- what a run starts from -/
def SM.of (s : Shared) (nw : Nat → Addr) (k : KT) (mu : List Addr) (ro : List (Addr × Obj)) : SM := ⟨s.heap, s.heap.objs.size, nw, k, mu, ro, s.toks, s.gens, s.drawn, s.os⟩
theorem ok_mu {s : Shared} {nw : Nat → Addr} {k : KT} {a : Addr} {o : Obj} (hnw : ∀ j, nw j = s.heap.objs.size + j) (hk : KtIn k s.heap) (hm : s.heap.get? a = some o) (ha : k.get a = none) : (SM.of s nw k [a] []).Ok :=
  ⟨hnw, rfl, fun b ob e => ⟨hk b ob e, fun m => by
    have e' : k.get b = some ob := e
    rw [List.mem_singleton.mp m, ha] at e'; cases e'⟩, fun _ h => (nomatch h), List.nodup_cons.mpr ⟨List.not_mem_nil, List.nodup_nil⟩, fun b hb => by rw [List.mem_singleton.mp hb]; exact Heap.lt_size hm⟩
theorem rep_mu {s : Shared} {nw : Nat → Addr} {k : KT} {a : Addr} {o : Obj} (hm : s.heap.get? a = some o) : RepS (SM.of s nw k [a] []) s.heap (.node o .nil .nil) 0 := by
  refine ⟨rfl, fun i ob e => ?_, fun b ob e _ => e⟩
  have h0 : i = 0 ∧ o = ob := by
    unfold BT.get at e
    split at e
    · rename_i q
      exact ⟨Nat.eq_of_beq_eq_true q, Option.some.inj e⟩
    · split at e <;> (unfold BT.get at e; cases e)
  obtain ⟨rfl, rfl⟩ := h0
  exact ⟨Nat.lt_succ_self _, hm⟩
theorem ok_ro {s : Shared} {nw : Nat → Addr} {k : KT} {ro : List (Addr × Obj)} (hnw : ∀ j, nw j = s.heap.objs.size + j) (hk : KtIn k s.heap) (hr : Facts s.heap ro) : (SM.of s nw k [] ro).Ok := by
  refine ⟨hnw, rfl, fun b ob e => ⟨hk b ob e, List.not_mem_nil⟩, fun p hp => ⟨?_, List.not_mem_nil⟩, List.nodup_nil, fun b hb => (nomatch hb)⟩
  clear hnw hk
  induction ro with
  | nil => cases hp
  | cons x l ih =>
    rcases List.mem_cons.mp hp with rfl | hp
    · exact hr.1
    · exact ih hr.2 hp
theorem rep_ro {s : Shared} {nw : Nat → Addr} {k : KT} {ro : List (Addr × Obj)} : RepS (SM.of s nw k [] ro) s.heap .nil 0 := ⟨rfl, fun i ob e => (by unfold BT.get at e; cases e), fun b ob e _ => e⟩
theorem RepS.at {M : SM} {h : Heap} {T : BT} {m : Nat} (D : RepS M h T m) (i : Nat) {o : Obj} {a : Addr} (e : T.get i = some o) (ha : M.ad i = a) : h.get? a = some o := ha ▸ (D.own i o e).2
theorem SM.Ok.fresh {M : SM} (O : M.Ok) (j : Nat) : M.h₀.get? (M.nw j) = none := by
  cases q : M.h₀.get? (M.nw j) with
  | none => rfl
  | some o =>
    have h1 := Heap.lt_size q
    rw [O.size, O.nw] at h1
    exact absurd h1 (Nat.not_lt.mpr (Nat.le_add_right _ _))
theorem KtIn.of_rep {M : SM} {h : Heap} {T : BT} {m : Nat} (O : M.Ok) (D : RepS M h T m) : KtIn M.kt h := fun a o e => D.keep a o (O.kt a o e).1 (O.kt a o e).2
theorem SM.Ok.nw_lit {M : SM} (O : M.Ok) (j n : Nat) (hk : (M.kt.get 94).isSome = true) (hn : Nat.blt n 95 = true) : M.nw j ≠ n := by
  intro e
  obtain ⟨o, ho⟩ := Option.isSome_iff_exists.mp hk
  have h1 : (94 : Nat) < M.N := O.size ▸ Heap.lt_size (O.kt 94 o ho).1
  rw [O.nw] at e
  have h2 : n < 95 := Nat.le_of_ble_eq_true hn
  have e' : M.N + j = n := e
  omega
theorem refBeqT (a : Addr) : (Value.ref a == Value.ref a) = true := beq_self_eq_true _
theorem start_s {prog : Program} {w : World} {A : Around} {c : Code} {R : Result → Shared → Prop} {s : Shared} {B : SB} (hB : B = ⟨prog, w, A, fun _ _ => True, fun _ _ => True, R⟩)
    (x : Means B c .top (denQ c) ⟨s.heap, s.gens, s.drawn, s.toks + 0, s.os⟩) : codeAny (model prog w) A c R s := by
  subst hB
  rw [← denQ_eq] at x
  exact y_code _ _ _ _ _ _ x
theorem means_end {B : SB} {c : Code} {f : Flow} {s : Shared} (h : B.R₀ (.ok f) s) : Means B c .top (.pure (.done f)) s := y_pure _ _ _ _ _ _ _ _ _ h
open Lean Meta Elab Tactic
structure MB where
  B : Lean.Expr
  M : Lean.Expr
  O : Lean.Expr
  s : Lean.Expr
  w : Lean.Expr
  nw : Lean.Expr
  mu : List Lean.Expr
  ro : List (Lean.Expr × Lean.Expr)
structure Fm where
  c : Lean.Expr
  hd : Lean.Expr
  k : Lean.Expr
  kap : Option Lean.Expr
structure MS where
  c : Lean.Expr
  fs : List Fm
  t : Lean.Expr
  T : List Lean.Expr
  m : Nat
  i : Nat
  n : Nat
  dg : List Nat
  ob : List Lean.Expr
def kapOf : List Fm → Lean.Expr
  | [] => mkConst ``SK.top
  | f :: r => match f.kap with
    | some k => k
    | none => mkApp4 (mkConst ``SK.ret) f.c f.hd f.k (kapOf r)
def odds : List Lean.Expr → List Lean.Expr
  | a :: _ :: r => a :: odds r
  | l => l
def btE : Nat → List Lean.Expr → Lean.Expr
  | 0, _ => mkConst ``BT.nil
  | _, [] => mkConst ``BT.nil
  | n + 1, x :: xs => mkApp3 (mkConst ``BT.node) x (btE n (odds xs)) (btE n (odds (xs.drop 1)))
def MS.TE (s : MS) : Lean.Expr := btE s.T.length s.T
def natE (n : Nat) : Lean.Expr := mkRawNatLit n
def sharedE (b : MB) (h : Lean.Expr) (i : Nat) : Lean.Expr := mkApp5 (mkConst ``Shared.mk) h (mkApp (mkConst ``Shared.gens) b.s) (mkApp (mkConst ``Shared.drawn) b.s) (mkNatAdd (mkApp (mkConst ``Shared.toks) b.s) (natE i)) (mkApp (mkConst ``Shared.os) b.s)
def meansE (b : MB) (s : MS) (h t : Lean.Expr) : Lean.Expr := mkAppN (mkConst ``Means) #[b.B, s.c, kapOf s.fs, t, sharedE b h s.i]
def repE (b : MB) (s : MS) (h : Lean.Expr) : Lean.Expr := mkAppN (mkConst ``RepS) #[b.M, h, s.TE, natE s.m]
def nAddr (a : Lean.Expr) : MetaM Lean.Expr := do
  let a ← XRun.kw a
  match a with
  | .app f j => if f.isFVar then return .app f (← XRun.kw j) else return a
  | _ => return a
def nVal (v : Lean.Expr) : MetaM Lean.Expr := do
  let v ← XRun.kw v
  if v.isAppOfArity ``Value.ref 1 then return mkApp v.appFn! (← nAddr v.appArg!) else return v
def nPair (p : Lean.Expr) : MetaM Lean.Expr := do
  let p ← XRun.kw p
  if p.isAppOfArity ``Prod.mk 4 then return mkApp2 p.appFn!.appFn! p.appFn!.appArg! (← nVal p.appArg!) else return p
def nArgs (a : Lean.Expr) : MetaM Lean.Expr := do
  let a ← XRun.kw a
  if a.isAppOfArity ``Args.mk 2 then return mkApp2 (mkConst ``Args.mk) (← XRun.nList a.appFn!.appArg! nVal) (← XRun.nList a.appArg! nPair) else return a
/-- a code, its values laid out -/
def nCode (c : Lean.Expr) : MetaM Lean.Expr := do
  let c ← XRun.kw c
  if c.isAppOfArity ``Code.call 2 then return mkApp2 (mkConst ``Code.call) (← nVal c.appFn!.appArg!) (← nArgs c.appArg!)
  if c.isAppOfArity ``Code.builtin 2 then return mkApp2 (mkConst ``Code.builtin) c.appFn!.appArg! (← nArgs c.appArg!)
  return c
def nCt (v : Lean.Expr) : MetaM Lean.Expr := do if ← XRun.isCtor v then return v else XRun.kw v
def nEnt (e : Lean.Expr) : MetaM Lean.Expr := do
  if e.isAppOfArity ``DictEntry.mk 3 then return mkApp3 e.getAppFn e.getAppArgs[0]! (← nCt e.getAppArgs[1]!) (← nCt e.getAppArgs[2]!) else return e
/-- an object, its entries laid out -/
def nOb (o : Lean.Expr) : MetaM Lean.Expr := do
  let o ← XRun.nObj o
  let a := o.getAppArgs
  if a.size == 4 && a[2]!.isAppOfArity ``PySem.Data.dict 2 then
    let x := a[2]!.getAppArgs
    return mkApp4 o.getAppFn a[0]! a[1]! (mkApp2 a[2]!.getAppFn (← XRun.nArr x[0]! nEnt) (← XRun.kw x[1]!)) a[3]!
  else return o
/-- the digit, the object, and the address to note -/
def find (b : MB) (s : MS) (a : Lean.Expr) : MetaM (Option (Nat × Lean.Expr × List Lean.Expr)) := do
  let a ← nAddr a
  if let some i := b.mu.findIdx? (· == a) then return (s.T[i]?).map fun o => (2 + i, o, [a])
  if let .app f j := a then
    if f == b.nw then
      return (j.rawNatLit?.bind fun j => (s.T[b.mu.length + j]?).map fun o => (2 + b.mu.length + j, o, [a]))
  if let some j := b.ro.findIdx? (·.1 == a) then return (b.ro[j]?).map fun p => (2050 + j, p.2, [p.1])
  if a.isRawNatLit then
    let o ← XRun.kw (mkApp2 (mkConst ``KT.get) (mkApp (mkConst ``kt) (mkApp (mkConst ``World.params) b.w)) a)
    if o.isAppOfArity ``Option.some 2 then return some (1, o.appArg!, [])
  return none
def kEq (x y : Lean.Expr) : MetaM Bool := do
  match Kernel.isDefEq (← getEnv) (← getLCtx) x y with
  | .ok r => return r
  | .error _ => return false
def MS.on (s : MS) (f x : Lean.Expr) : Option MS := some { s with t := (mkApp f x).headBeta, n := s.n + 1 }
def resE (n : Name) (x : Lean.Expr) : Lean.Expr := mkApp3 (mkConst n [0, 0]) (mkConst ``Value) (mkConst ``Flow) x
def flowE (f : Lean.Expr) : MetaM Lean.Expr := do
  let f ← XRun.kw f
  if f.isAppOfArity ``Flow.ret 1 then return mkApp f.appFn! (← nVal f.appArg!) else return f
def stepP (s : MS) (fin : Lean.Expr) : MetaM (Option MS) := do
  let fin ← XRun.kw fin
  if fin.isAppOfArity ``Fin.again 1 then
    let c ← nCode fin.appArg!
    return MS.on { s with c } (mkConst ``denQ) c
  match s.fs with
  | [] => return none
  | f :: r => return MS.on { s with c := f.c, fs := r } f.k (resE ``Except.ok (← flowE fin.appArg!))
def stepR (s : MS) (e : Lean.Expr) : MetaM (Option MS) := do
  match s.fs with
  | [] => return none
  | f :: r => return MS.on { s with c := f.c, fs := r } f.k (resE ``Except.error (← XRun.kw e))
def stepL (b : MB) (s : MS) (a k : Lean.Expr) (w : Lean.Expr → Lean.Expr) : MetaM (Option MS) := do
  match ← find b s a with
  | some (d, o, ob) => return MS.on { s with dg := d :: s.dg, ob := ob ++ s.ob } k (w o)
  | none => return none
def stepU (b : MB) (s : MS) (a f k : Lean.Expr) : MetaM (Option MS) := do
  match ← find b s a with
  | some (d, o, ob) =>
    let o ← nOb (mkApp f o).headBeta
    return MS.on { s with dg := d :: s.dg, ob := ob ++ s.ob, T := s.T.set (d - 2) o } k (mkConst ``Unit.unit)
  | none => return none
def stepS (b : MB) (s : MS) : MetaM (Option MS) := do
  let a := s.t.getAppArgs
  let .const n _ := s.t.getAppFn | return none
  if n == ``Sem.rule || n == ``Sem.at || n == ``Sem.point then return s.on a[2]! (mkConst ``Unit.unit)
  if n == ``Sem.load then return ← stepL b s a[1]! a[3]! id
  if n == ``Sem.loadIfAlive then return ← stepL b s a[1]! a[2]! fun o => mkApp2 (mkConst ``Option.some [0]) (mkConst ``Obj) o
  if n == ``Sem.update then return ← stepU b s a[1]! a[3]! a[4]!
  if n == ``Sem.pure then return ← stepP s a[1]!
  if n == ``Sem.raise then return ← stepR s a[1]!
  if n == ``Sem.ask then return s.on a[1]! (mkApp2 (mkConst ``Setting.mk) (mkConst ``prg) (mkApp (mkConst ``World.params) b.w))
  if n == ``Sem.alloc then return MS.on { s with T := s.T ++ [← nOb a[1]!], m := s.m + 1 } a[2]! (mkApp b.nw (natE s.m))
  if n == ``Sem.fresh then return MS.on { s with i := s.i + 1 } a[1]! (mkNatAdd (mkApp (mkConst ``Shared.toks) b.s) (natE s.i))
  if n == ``Sem.handled then return s.on a[2]! (← XRun.kw (mkApp (mkConst ``Around.handled) (mkApp2 (mkConst ``SB.A) b.B (kapOf s.fs))))
  if n == ``Sem.call then
    let c ← nCode a[1]!
    return MS.on { s with c, fs := ⟨s.c, ← XRun.kw a[2]!, a[5]!, none⟩ :: s.fs } (mkConst ``denQ) c
  return none
def runS (b : MB) : Nat → MS → MetaM MS
  | 0, s => return s
  | n + 1, s => do
    XRun.evMap.set {}
    let s := { s with t := ← ZRun.zev s.t }
    match ← stepS b s with
    | some s' => runS b n s'
    | none => return s
/-- a name for a term -/
def defLet (g : MVarId) (n : Name) (ty : Name) (v : Lean.Expr) : MetaM (MVarId × Lean.Expr) := do
  if v.isFVar then return (g, v)
  let (f, g) ← (← g.define n (mkConst ty) v).intro1P
  return (g, mkFVar f)
def nameT (g : MVarId) : List Lean.Expr → MetaM (MVarId × List Lean.Expr)
  | [] => return (g, [])
  | o :: l => do
    let (g, o) ← defLet g `ob ``Obj o
    let (g, l) ← nameT g l
    return (g, o :: l)
def nameF (g : MVarId) : List Fm → MetaM (MVarId × List Fm)
  | [] => return (g, [])
  | f :: l => do
    let (g, l) ← nameF g l
    if f.kap.isSome then return (g, f :: l)
    let (g, c) ← defLet g `cd ``Code f.c
    let (g, k) ← defLet g `kk ``SK (mkApp4 (mkConst ``SK.ret) c f.hd f.k (kapOf l))
    return (g, { f with c, kap := some k } :: l)
/-- from the goal of s0 to the goal of s1 -/
def emit (b : MB) (g : MVarId) (s0 s1 : MS) (h D : Lean.Expr) : MetaM (MVarId × MS × Lean.Expr × Lean.Expr) := do
  if s1.n == 0 then return (g, s1, h, D)
  let (g, T) ← nameT g s1.T
  let (g, c) ← defLet g `cd ``Code s1.c
  let (g, fs) ← nameF g s1.fs
  let s1 := { s1 with T, c, fs }
  g.withContext do
  let m ← mkFreshExprSyntheticOpaqueMVar (← withLocalDeclD `h (mkConst ``Heap) fun h' => withLocalDeclD `D (repE b s1 h') fun D' => mkForallFVars #[h', D'] (meansE b s1 h' s1.t))
  let hs := s1.dg.foldl (fun r d => r * 4096 + d) 0
  let nat := mkConst ``Nat
  let L := listE nat s1.ob
  let lT := mkApp (mkConst ``List [0]) nat
  let pf := mkApp4 (mkConst ``And.intro) (mkApp3 (mkConst ``Eq [1]) lT L L) (← inferType m) (mkApp2 (mkConst ``Eq.refl [1]) lT L) m
  let nil := mkApp (mkConst ``List.nil [0]) (mkApp2 (mkConst ``Prod [0, 0]) nat nat)
  g.assign (mkAppN (mkConst ``simS_sound) #[mkConst ``denQ, mkConst ``denQ_eq, b.B, b.M, b.O, natE s1.n, natE hs, s0.c, kapOf s0.fs, s0.t, s0.TE, natE s0.m, natE s0.i, nil, pf, h, D])
  let (fs, g') ← m.mvarId!.introNP 2
  return (g', { s1 with n := 0, dg := [], ob := [] }, mkFVar fs[0]!, mkFVar fs[1]!)
structure Lev where
  P : Lean.Expr → Lean.Expr
  A : Lean.Expr → Lean.Expr
  M : Lean.Expr
  orig : Lean.Expr
  dep : Bool
/-- a recursor over a tree, as the bind, the catch .. that it came of -/
def foldRec (e : Lean.Expr) : MetaM (Option (Lean.Expr → Lean.Expr)) := do
  unless e.getAppFn.isConstOf ``Sem.rec do return none
  let args := e.getAppArgs
  let n := args.size
  let .lam _ _ mb _ := args[1]! | return none
  unless mb.isAppOfArity ``Sem 1 && !mb.hasLooseBVars do return none
  let f := match args[2]! with
    | .lam _ _ (.app g (.bvar 0)) _ => if g.hasLooseBVars then args[2]! else g
    | f => f
  let c (x : Lean.Expr) := mkApp4 (mkConst ``PySem.W.R.bindR) args[0]! mb.appArg! x f
  if ← kEq e (c args[n - 1]!) then return some c else return none
def chainGo : Nat → Lean.Expr → (Lean.Expr → Lean.Expr) → (Lean.Expr → Lean.Expr) → Bool → MetaM (List Lev)
  | 0, _, _, _, _ => return []
  | n + 1, e, P, A, dep => do
    match ← XRun.majorOf e with
    | none => return []
    | some M =>
      let pA (x : Lean.Expr) : Lean.Expr := e.replace fun y => if y == M then some x else none
      let args := e.getAppArgs
      let (pP, d) : (Lean.Expr → Lean.Expr) × Bool ← (match e.getAppFn with
        | .const n _ => do
          match (← getEnv).find? n with
          | some (.recInfo r) =>
            match ← foldRec e with
            | some c => pure (c, false)
            | none => pure (fun x => mkAppN e.getAppFn (args.set! r.getMajorIdx x), ZRun.depRec r args)
          | _ => pure (pA, true)
        | .proj sn k _ => pure (fun x => mkAppN (.proj sn k x) args, false)
        | _ => pure (pA, true))
      let l : Lev := { P := fun x => P (pP x), A := fun x => A (pA x), M, orig := (← XRun.evMap.get).getD M M, dep := dep || d }
      return l :: (← chainGo n M l.P l.A l.dep)
def lamOf (ty : Lean.Expr) (c : Lean.Expr → Lean.Expr) : MetaM Lean.Expr := withLocalDeclD `d ty fun d => mkLambdaFVars #[d] (c d)
def okCtx (ty : Lean.Expr) (c : Lean.Expr → Lean.Expr) : MetaM Bool := do
  match Kernel.check (← getEnv) (← getLCtx) (← instantiateMVars (← lamOf ty c)) with
  | .ok _ => return true
  | .error _ => return false
def ctxOf (t : Lean.Expr) (l : Lev) (ty : Lean.Expr) : MetaM (Lean.Expr → Lean.Expr) := do
  if !l.dep then return l.P
  if ← okCtx ty l.P then return l.P
  if ← okCtx ty l.A then return l.A
  return fun x => t.replace fun y => if y == l.M || y == l.orig then some x else none
/-- two addresses that are parted -/
def neAddr (b : MB) (l r : Lean.Expr) : MetaM (Option Lean.Expr) := do
  let .app f i := l | return none
  unless f == b.nw do return none
  match r with
  | .app f' j =>
    unless f' == b.nw do return none
    let k := b.mu.length
    let (i, j) := (i.rawNatLit?.getD 0 + k, j.rawNatLit?.getD 0 + k)
    return some (mkAppN (mkConst ``SM.Ok.ad_ne) #[b.M, b.O, mkNatLit i, mkNatLit j, ← mkDecideProof (mkApp3 (mkConst ``Ne [1]) (mkConst ``Nat) (mkNatLit i) (mkNatLit j))])
  | y =>
    unless y.isRawNatLit do return none
    let tt := XRun.rflAt (mkConst ``Bool) (mkConst ``Bool.true)
    return some (mkAppN (mkConst ``SM.Ok.nw_lit) #[b.M, b.O, i, y, tt, tt])
/-- a decision: what it hangs on (a term M of type T), what it is, and the proof -/
def decision (b : MB) (l : Lev) : MetaM (Option (Lean.Expr × Lean.Expr × Lean.Expr)) := do
  let oT ← whnfCore (← inferType l.orig)
  if oT.isAppOfArity ``Decidable 1 then
    let p := ZRun.foldQ oT.appArg!
    let some (ty, x, y) := (← ZRun.nice p).eq? | return none
    unless (← whnfD ty).isConstOf ``Nat do return none
    let (x, y) := (← nAddr x, ← nAddr y)
    let dT := mkApp (mkConst ``Decidable) p
    if x == y then
      return some (dT, mkApp2 (mkConst ``Decidable.isTrue) p (← mkExpectedTypeHint (← mkEqRefl x) p), mkConst ``True.intro)
    let some h ← neAddr b x y | return none
    return some (dT, mkApp2 (mkConst ``Decidable.isFalse) p (← mkExpectedTypeHint h (mkApp (mkConst ``Not) p)), mkConst ``True.intro)
  if l.orig.isAppOfArity ``BEq.beq 4 && l.orig.getAppArgs[0]!.isConstOf ``Value then
    let x ← nVal l.orig.appArg!
    unless x == (← nVal l.orig.appFn!.appArg!) do return none
    return some (mkConst ``Bool, mkConst ``Bool.true, mkApp (mkConst ``refBeqT) x.appArg!)
  if let .proj _ _ (.const on _) := l.M.getAppFn then
    if on == ``oNear || on == ``oOver || on == ``oWarm then
      for d in (← getLCtx).decls.toList.filterMap id do
        let t ← instantiateMVars d.type
        if t.isAppOfArity ``Lies 2 && t.appArg! == l.M.getAppArgs[0]! then
          let A' := t.appFn!.appArg!
          let lt := mkApp3 (mkConst ``Nat.le_of_ble_eq_true) (mkApp (mkConst ``Nat.succ) (mkApp (mkConst ``Around.depth) A')) (mkConst ``recursionLimit) (XRun.rflAt (mkConst ``Bool) (mkConst ``Bool.true))
          return some (mkConst ``Bool, mkConst ``Bool.false, ← mkAppM (if on == ``oNear then ``Lies.near' else if on == ``oOver then ``Lies.over else ``Lies.warm) #[d.toExpr, lt, l.M.getAppArgs[1]!])
  return none
def firstDec (b : MB) : List Lev → MetaM (Option (Lev × Lean.Expr × Lean.Expr × Lean.Expr))
  | [] => return none
  | l :: r => do
    match ← decision b l with
    | some (T, v, e) => return some (l, T, v, e)
    | none => firstDec b r
/-- drive the goal to its end -/
def drive (b : MB) : Nat → MVarId → MS → Lean.Expr → Lean.Expr → TacticM (MVarId × MS × Lean.Expr × Lean.Expr)
  | 0, _, _, _, _ => throwError "fuel"
  | n + 1, g, s, h, D => do
    let s1 ← g.withContext (runS b 20000 s)
    let a := s1.t.getAppArgs
    if s1.t.isAppOf ``Sem.pure then return ← emit b g s s1 h D
    if s1.t.isAppOf ``Sem.stack then
      let (g, s1, h, D) ← emit b g s s1 h D
      let cp := mkApp2 (mkConst ``Prod [0, 0]) (mkConst ``Code) (mkConst ``Pos)
      let stOf (p below : Lean.Expr) := mkApp3 (mkConst ``List.cons [0]) cp (mkApp4 (mkConst ``Prod.mk [0, 0]) (mkConst ``Code) (mkConst ``Pos) s1.c p) below
      let Au := mkApp2 (mkConst ``Around.under) (mkApp2 (mkConst ``SB.A) b.B (kapOf s1.fs)) s1.c
      let (g', t) ← g.withContext do
        let m ← mkFreshExprSyntheticOpaqueMVar (← withLocalDeclD `p (mkConst ``Pos) fun p => withLocalDeclD `below (mkApp (mkConst ``List [0]) cp) fun below =>
          withLocalDeclD `l (mkApp2 (mkConst ``Lies) Au (stOf p below)) fun l => mkForallFVars #[p, below, l] (meansE b s1 h (mkApp a[1]! (stOf p below))))
        g.assign (mkAppN (mkConst ``means_stack) #[b.B, s1.c, kapOf s1.fs, sharedE b h s1.i, a[1]!, m])
        let (fs, g') ← m.mvarId!.introNP 3
        return (g', mkApp a[1]! (stOf (mkFVar fs[0]!) (mkFVar fs[1]!)))
      return ← drive b n g' { s1 with t } h D
    let (l, T, v, e) ← g.withContext do
      let ch ← chainGo 60 s1.t id id false
      let some x ← firstDec b ch | throwError "stuck: {ch.map (·.M)}"
      return x
    let c ← g.withContext (ctxOf s1.t l T)
    let (g, F) ← g.withContext do
      let F ← lamOf T c
      let (f, g) ← (← g.define `tr (← mkArrow T (mkApp (mkConst ``Sem) (mkConst ``PySem.Fin))) F).intro1P
      return (g, mkFVar f)
    let (g, s1, h, D) ← emit b g s { s1 with t := mkApp F l.M } h D
    g.withContext do
    let t := mkApp F v
    let m ← mkFreshExprSyntheticOpaqueMVar (meansE b s1 h t)
    let lam ← lamOf T fun d => meansE b s1 h (mkApp F d)
    if T.isConstOf ``Bool then g.assign (mkAppN (mkConst ``Z.g_num) #[T, l.M, v, e, lam, m])
    else g.assign (mkAppN (mkConst (if v.isAppOf ``Decidable.isTrue then ``Z.g_true else ``Z.g_false)) #[v.getAppArgs[0]!, l.M, v.appArg!, lam, m])
    drive b n m.mvarId! { s1 with t } h D
def byName (n : Name) : TacticM Lean.Expr := do
  let some d := (← getLCtx).findFromUserName? n | throwError "{n}"
  return d.toExpr
def listOf (e : Lean.Expr) : MetaM (List Lean.Expr) := do
  let l ← XRun.nList e pure
  return itemsL 2000 l
where itemsL : Nat → Lean.Expr → List Lean.Expr
  | 0, _ => []
  | n + 1, l => if l.isAppOfArity ``List.cons 3 then l.getAppArgs[1]! :: itemsL n l.getAppArgs[2]! else []
/-- M, B, O, D, s, w, nw stand in the context; the goal is Means B c .top (denQ c) .. -/
def goOn : TacticM MS := withMainContext do
  let g ← getMainGoal
  let (M, D) := (← byName `M, ← byName `D)
  let some Mv ← M.fvarId!.getValue? | throwError "M"
  let a := Mv.getAppArgs
  let mu ← (← listOf a[3]!).mapM fun x => (nAddr x : TacticM Lean.Expr)
  let ro ← (← listOf a[4]!).mapM fun p => (do
    let p ← XRun.kw p
    return (← nAddr p.getAppArgs[2]!, ← XRun.nObj p.getAppArgs[3]!) : TacticM (Lean.Expr × Lean.Expr))
  let b : MB := { B := ← byName `B, M, O := ← byName `O, s := ← byName `s, w := ← byName `w, nw := ← byName `nw, mu, ro }
  let G := (← instantiateMVars (← g.getType)).consumeMData.getAppArgs
  let c ← nCode G[1]!
  let T ← (if mu.isEmpty then return [] else do
    let Dt := (← instantiateMVars (← inferType D)).consumeMData.getAppArgs
    let some T := Dt[2]? | throwError "D: {← inferType D}"
    let some o := (← XRun.kw T).getAppArgs[0]? | throwError "T: {T}"
    return [o] : TacticM (List Lean.Expr))
  let (g, s, _, _) ← drive b 100 g { c, fs := [], t := mkApp (mkConst ``denQ) c, T, m := 0, i := 0, n := 0, dg := [], ob := [] } (mkApp (mkConst ``Shared.heap) b.s) D
  replaceMainGoal [g]
  return s
end Mine
end
section
open PySem PySem.W PySem.W.X PyProof.Rows
set_option Elab.async false
set_option maxRecDepth 100000
set_option maxHeartbeats 0
set_option linter.unusedVariables false
namespace Mine
open Lean Meta Elab Tactic
/-- a def's data, off the head -/
def fnLit (f : Nat) (k : Lean.Expr → TacticM Lean.Expr) : TacticM Unit := do
  let w ← mkFreshExprMVar (mkConst ``World)
  let o ← XRun.kw (mkApp2 (mkConst ``KT.get) (mkApp (mkConst ``Mine.kt) (mkApp (mkConst ``World.params) w)) (mkRawNatLit f))
  let o ← whnfCore ((← unfoldDefinition? o.appArg!).getD o.appArg!)
  let d ← whnfCore o.getAppArgs[2]!
  (← getMainGoal).assign (← k d.appArg!)
/-- a part of a def in the class's body -/
def inCls (j i : Nat) : TacticM Unit := fnLit 39 fun d => do
  let l ← listOf d.getAppArgs[3]!.appArg!
  let b ← listOf (← whnfCore l.head!).getAppArgs[3]!
  return (← whnfCore b[j]!).getAppArgs[i]!
noncomputable def paIn : Arguments := by run_tac inCls 2 1
noncomputable def bdIn : List Stmt := by run_tac inCls 2 2
noncomputable def scIn : Scope := by run_tac inCls 2 6
noncomputable def paLt : Arguments := by run_tac inCls 3 1
noncomputable def bdLt : List Stmt := by run_tac inCls 3 2
noncomputable def scLt : Scope := by run_tac inCls 3 6
def nIn : Str := ⟨#[95, 95, 105, 110, 105, 116, 95, 95]⟩
def qIn : Str := ⟨#[99, 109, 112, 95, 116, 111, 95, 107, 101, 121, 46, 60, 108, 111, 99, 97, 108, 115, 62, 46, 75, 46, 95, 95, 105, 110, 105, 116, 95, 95]⟩
def nLt : Str := ⟨#[95, 95, 108, 116, 95, 95]⟩
def qLt : Str := ⟨#[99, 109, 112, 95, 116, 111, 95, 107, 101, 121, 46, 60, 108, 111, 99, 97, 108, 115, 62, 46, 75, 46, 95, 95, 108, 116, 95, 95]⟩
def nMy : Str := ⟨#[109, 121, 99, 109, 112]⟩
def qK : Str := ⟨#[99, 109, 112, 95, 116, 111, 95, 107, 101, 121, 46, 60, 108, 111, 99, 97, 108, 115, 62, 46, 75]⟩
def nObj : Str := ⟨#[111, 98, 106]⟩
def nFile : Str := ⟨#[47, 99, 108, 97, 105, 109, 47, 99, 117, 116, 46, 112, 121]⟩
/-- a name's entry in a dict -/
noncomputable def de (w : World) (x : Str) (t : Nat) (v : Value) : DictEntry := ⟨condFn Int x.cps.isEmpty 0 (ZFast.zw12210062019545310541 (w.params.strHash x.cps)), .str x t, v⟩
/-- a method's code -/
noncomputable def codeO (a : Nat → Addr) (τ : Nat → Nat) (x q : Str) (line t t' b : Nat) : Obj := ⟨.type SZ.s5856160107412720595x4, none, .fields #[.str x (τ t), .str q (τ (t + 1)), .str nFile (τ (t + 2)), .int (Int.ofNat line) 0, .int (Int.ofNat 2) 0, .int (Int.ofNat 0) 0, .int (Int.ofNat 0) 0, .int (Int.ofNat 19) 0, .ref (a b), .bool true, .int (Int.ofNat 181) 0, .ref (a (b + 1)), .none, .ref (a (b + 2)), .ref (a (b + 3)), .ref (a (b + 4)), .int (Int.ofNat (τ t')) 0, .int (Int.ofNat line) 0, .str nFile (τ (t' + 1))], #[]⟩
noncomputable def mainV : Value := .str ⟨#[108, 97, 119, 95, 109, 114, 48, 49, 51, 55, 95, 48, 49]⟩ 228
/-- the class that cmp_to_key makes, and what it names -/
noncomputable def kRel (w : World) (f : Addr) (a : Nat → Addr) (τ : Nat → Nat) : List (Addr × Obj) := [
  (a 60, ⟨.type SZ.s17162191345867700912x4, none, .cls { name := ⟨#[75]⟩, bases := [.type SZ.s2742458400755230247x6], mro := [.ref (a 60), .type SZ.s2742458400755230247x6], ns := a 59, qualname := qK, hasDict := false, slotNames := [nObj] }, #[some (.ref (a 2)), none, some (.str ⟨#[75]⟩ (τ 0)), some (.str qK (τ 9)), some (.builtin SZ.s11443829558043349243x14), some (.bool false)]⟩),
  (a 59, ⟨.type SZ.s14018661285674007319x4, none, .dict #[de w ⟨#[95, 95, 109, 111, 100, 117, 108, 101, 95, 95]⟩ (τ 8) (Value.str ⟨#[99, 112, 121, 51, 49, 51, 46, 102, 117, 110, 99, 116, 111, 111, 108, 115]⟩ (τ 13)), de w ⟨#[95, 95, 102, 105, 114, 115, 116, 108, 105, 110, 101, 110, 111, 95, 95]⟩ (τ 12) (Value.int (Int.ofNat 45) (τ 11)), de w ⟨#[95, 95, 115, 108, 111, 116, 115, 95, 95]⟩ (τ 16) (Value.ref (a 9)), de w ⟨#[95, 95, 105, 110, 105, 116, 95, 95]⟩ (τ 24) (Value.ref (a 16)), de w ⟨#[95, 95, 108, 116, 95, 95]⟩ (τ 33) (Value.ref (a 24)), de w ⟨#[95, 95, 103, 116, 95, 95]⟩ (τ 42) (Value.ref (a 32)), de w ⟨#[95, 95, 101, 113, 95, 95]⟩ (τ 51) (Value.ref (a 40)), de w ⟨#[95, 95, 108, 101, 95, 95]⟩ (τ 60) (Value.ref (a 48)), de w ⟨#[95, 95, 103, 101, 95, 95]⟩ (τ 69) (Value.ref (a 56)), de w ⟨#[95, 95, 104, 97, 115, 104, 95, 95]⟩ (τ 70) Value.none, de w ⟨#[95, 95, 115, 116, 97, 116, 105, 99, 95, 97, 116, 116, 114, 105, 98, 117, 116, 101, 115, 95, 95]⟩ (τ 72) (Value.ref (a 57)), de w ⟨#[111, 98, 106]⟩ (τ 74) (Value.ref (a 61)), de w ⟨#[95, 95, 100, 111, 99, 95, 95]⟩ (τ 75) Value.none] 3, #[]⟩),
  (a 61, ⟨.type SZ.s5699418376593618685x17, none, .fields #[.str nObj (τ 73), .ref (a 60), .builtin SZ.s6779124196712981104x10, .builtin SZ.s2924395122027826103x14, .int (Int.ofNat 0) 0], #[]⟩),
  (a 15, codeO a τ nIn qIn 49 17 22 10),
  (a 16, ⟨.type SZ.s7174869446012820540x8, none, .func (fnX nIn qIn paIn bdIn scIn [] .none .none .none mainV none (.ref (a 15)) .none), #[]⟩),
  (a 23, codeO a τ nLt qLt 52 25 31 18),
  (a 24, ⟨.type SZ.s7174869446012820540x8, none, .func (fnX nLt qLt paLt bdLt scLt [(nMy, a 1)] .none .none .none mainV none (.ref (a 23)) (.ref (a 17))), #[]⟩),
  (a 1, ⟨.type SZ.s15660640913423913556x4, none, .cell (some (.ref f)), #[]⟩)]
/-- the codes that are laid once -/
noncomputable def kWarm (w : World) (a : Nat → Addr) (τ : Nat → Nat) : List (Addr × Obj) := [
  (34, ⟨.none, none, .fields #[.int (Int.ofNat 45) 0, .int (Int.ofNat 4) 0, .ref (a 7)], #[]⟩),
  (a 7, ⟨.type SZ.s5856160107412720595x4, none, .fields #[.str ⟨#[75]⟩ (τ 2), .str qK (τ 3), .str nFile (τ 4), .int (Int.ofNat 45) 0, .int (Int.ofNat 0) 0, .int (Int.ofNat 0) 0, .int (Int.ofNat 0) 0, .int (Int.ofNat 0) 0, .ref (a 5), .bool true, .int (Int.ofNat 181) 0, .ref (a 6), .none, .none, .none, .none, .int (Int.ofNat (τ 6)) 0, .int (Int.ofNat 45) 0, .str nFile (τ 7)], #[]⟩),
  (a 6, ⟨.none, none, .fields #[.int (Int.ofNat 49) 0, .int (Int.ofNat 8) 0, .ref (a 15), .int (Int.ofNat 52) 0, .int (Int.ofNat 8) 0, .ref (a 23), .int (Int.ofNat 55) 0, .int (Int.ofNat 8) 0, .ref (a 31), .int (Int.ofNat 58) 0, .int (Int.ofNat 8) 0, .ref (a 39), .int (Int.ofNat 61) 0, .int (Int.ofNat 8) 0, .ref (a 47), .int (Int.ofNat 64) 0, .int (Int.ofNat 8) 0, .ref (a 55)], #[]⟩),
  (a 15, codeO a τ nIn qIn 49 17 22 10),
  (a 23, codeO a τ nLt qLt 52 25 31 18),
  (a 31, codeO a τ ⟨#[95, 95, 103, 116, 95, 95]⟩ ⟨#[99, 109, 112, 95, 116, 111, 95, 107, 101, 121, 46, 60, 108, 111, 99, 97, 108, 115, 62, 46, 75, 46, 95, 95, 103, 116, 95, 95]⟩ 55 34 40 26),
  (a 39, codeO a τ ⟨#[95, 95, 101, 113, 95, 95]⟩ ⟨#[99, 109, 112, 95, 116, 111, 95, 107, 101, 121, 46, 60, 108, 111, 99, 97, 108, 115, 62, 46, 75, 46, 95, 95, 101, 113, 95, 95]⟩ 58 43 49 34),
  (a 47, codeO a τ ⟨#[95, 95, 108, 101, 95, 95]⟩ ⟨#[99, 109, 112, 95, 116, 111, 95, 107, 101, 121, 46, 60, 108, 111, 99, 97, 108, 115, 62, 46, 75, 46, 95, 95, 108, 101, 95, 95]⟩ 61 52 58 42),
  (a 55, codeO a τ ⟨#[95, 95, 103, 101, 95, 95]⟩ ⟨#[99, 109, 112, 95, 116, 111, 95, 107, 101, 121, 46, 60, 108, 111, 99, 97, 108, 115, 62, 46, 75, 46, 95, 95, 103, 101, 95, 95]⟩ 64 61 67 50)]
end Mine
end
section
open PySem PySem.W PySem.W.X PyProof.Rows
set_option Elab.async false
set_option maxRecDepth 100000
set_option maxHeartbeats 0
set_option linter.unusedVariables false
namespace Mine
def Ar (d u : Nat) : Around := { handled := none, depth := d, frames := none, guards := none, units := u }
theorem weaken {M : Model} {A A' : Around} {c : Code} {R : Result → Shared → Prop} {s : Shared} (h : codeAny M A c R s) (e1 : A'.handled = A.handled) (e2 : Nat.ble A'.depth A.depth = true)
    (e3 : A.frames = none) (e4 : A.guards = none) (e5 : Nat.ble A'.units A.units = true) : codeAny M A' c R s := fun Γ p hc hΓ =>
  h Γ p hc ⟨hΓ.1.trans e1, Nat.le_trans hΓ.2.1 (Nat.le_of_ble_eq_true e2), fun l hl => (by rw [e3] at hl; cases hl), fun g hg => (by rw [e4] at hg; cases hg), Nat.le_trans hΓ.2.2.2.2 (Nat.le_of_ble_eq_true e5)⟩
open Lean Meta Elab Tactic in
noncomputable def sList : String := by
  run_tac do (← getMainGoal).assign (← ZFast.litTwin (mkStrLit "list") "list").1
open Lean Meta Elab Tactic in
theorem sList_eq : "list" = sList := by
  run_tac do (← getMainGoal).assign (← ZFast.litTwin (mkStrLit "list") "list").2
noncomputable def lst (vs : Array Value) (n : Nat) : Obj := ⟨.type sList, none, .seq vs n, #[]⟩
def inst (kc dx o : Addr) : Obj := ⟨.ref kc, some dx, .plain, #[some (.ref o)]⟩
theorem offNew {h : Heap} {a b : Addr} {o : Obj} (e : h.get? b = some o) (n : h.get? a = none) : b ≠ a := by
  rintro rfl
  rw [n] at e; cases e
/-- what every contract keeps of the world beside the heap -/
def Same (s s' : Shared) : Prop := s'.gens = s.gens ∧ (s'.drawn, s'.os) = (s.drawn, s.os)
theorem Same.refl (s : Shared) : Same s s := ⟨rfl, rfl⟩
theorem Same.trans {s s' s'' : Shared} (a : Same s s') (b : Same s' s'') : Same s s'' := ⟨b.1.trans a.1, b.2.trans a.2⟩
/-- all but what stands at X is kept -/
def Keeps (X : List Addr) (h h' : Heap) : Prop := ∀ b o, h.get? b = some o → b ∉ X → h'.get? b = some o

theorem high_new {P : Params} {h : Heap} {nw : Nat → Addr} (K : KtIn (kt P) h) (hnw : ∀ j, nw j = h.objs.size + j) (j : Nat) : 95 ≤ nw j := by
  have e : ((kt P).get 94).isSome = true := rfl
  obtain ⟨o, ho⟩ := Option.isSome_iff_exists.mp e
  have h1 : (94 : Nat) < h.objs.size := Heap.lt_size (K 94 o ho)
  have h2 : nw j = h.objs.size + j := hnw j
  have h3 : 95 ≤ h.objs.size + j := by omega
  rw [h2]; exact h3
set_option hygiene false
theorem new_call (w : World) (s : Shared) (KX : KtIn (kt w.params) s.heap) (told o : Addr) (a : Nat → Addr) (τ : Nat → Nat) (hK : Facts s.heap (kRel w told a τ)) :
    codeAny (model prg w) (Ar 900 6000) (.call (.ref (a 60)) ⟨[.ref o], []⟩)
      (fun r s' => ∃ i dx, r = .ok (.ret (.ref i)) ∧ s'.heap.get? i = some (inst (a 60) dx o) ∧ s.heap.get? i = none ∧ (∀ b o, s.heap.get? b = some o → b ∉ ([] : List Addr) → s'.heap.get? b = some o) ∧ Same s s') s := by
  obtain ⟨nw, hnw⟩ := nw_ex s.heap.objs.size
  have O := ok_ro hnw KX hK
  have D := rep_ro (s := s) (nw := nw) (k := kt w.params) (ro := kRel w told a τ)
  refine start_s rfl ?_
  let M : SM := SM.of s nw (kt w.params) [] (kRel w told a τ)
  generalize hB : (SB.mk prg w _ _ _ _) = B
  run_tac discard goOn
  refine means_end ?_
  subst hB
  exact ⟨nw 1, nw 0, rfl, D.at 1 (by kernel_rfl) (by kernel_rfl), O.fresh 1, D.keep, rfl, rfl⟩
theorem obj_code (w : World) (s : Shared) (KX : KtIn (kt w.params) s.heap) (told i dx o : Addr) (a : Nat → Addr) (τ : Nat → Nat) (hK : Facts s.heap (kRel w told a τ)) (hi : s.heap.get? i = some (inst (a 60) dx o)) (t : Nat) :
    codeAny (model prg w) (Ar 900 6000) (.builtin "proto.getattr_hooked" ⟨[.ref i, .str nObj t], []⟩)
      (fun r s' => r = .ok (.ret (.ref o)) ∧ (∀ b o, s.heap.get? b = some o → b ∉ ([] : List Addr) → s'.heap.get? b = some o) ∧ Same s s') s := by
  obtain ⟨nw, hnw⟩ := nw_ex s.heap.objs.size
  have O := ok_ro (ro := (i, inst (a 60) dx o) :: kRel w told a τ) hnw KX ⟨hi, hK⟩
  have D := rep_ro (s := s) (nw := nw) (k := kt w.params) (ro := (i, inst (a 60) dx o) :: kRel w told a τ)
  refine start_s rfl ?_
  let M : SM := SM.of s nw (kt w.params) [] ((i, inst (a 60) dx o) :: kRel w told a τ)
  generalize hB : (SB.mk prg w _ _ _ _) = B
  run_tac discard goOn
  refine means_end ?_
  subst hB
  exact ⟨rfl, D.keep, rfl, rfl⟩
def upd (a : Nat → Nat) : List (Nat × Nat) → Nat → Nat
  | [], j => a j
  | p :: l, j => match Nat.beq p.1 j with
    | true => p.2
    | false => upd a l j
def TabK (w : World) (h : Heap) : Prop := h.get? 34 = some (tabObj #[]) ∨ ∃ a τ, Facts h (kWarm w a τ) ∧ ∀ j, 95 ≤ a j
theorem cmp_first (w : World) (s : Shared) (KX : KtIn (kt w.params) s.heap) (f : Addr) (h34 : s.heap.get? 34 = some (tabObj #[])) :
    codeAny (model prg w) (Ar 750 4500) (.call (.ref 39) ⟨[.ref f], []⟩)
      (fun r s' => ∃ a τ, r = .ok (.ret (.ref (a 60))) ∧ Facts s'.heap (kRel w f a τ) ∧ s.heap.get? (a 60) = none ∧ s.heap.get? (a 59) = none ∧ (∀ j, 95 ≤ a j) ∧ TabK w s'.heap ∧ KtIn (kt w.params) s'.heap ∧ (∀ b o, s.heap.get? b = some o → b ∉ [34] → s'.heap.get? b = some o) ∧ Same s s') s := by
  obtain ⟨nw, hnw⟩ := nw_ex s.heap.objs.size
  have O := ok_mu (nw := nw) hnw KX h34 (by kernel_rfl)
  have D := rep_mu (nw := nw) (k := kt w.params) h34
  refine start_s rfl ?_
  let M : SM := SM.of s nw (kt w.params) [34] []
  generalize hB : (SB.mk prg w _ _ _ _) = B
  run_tac discard goOn
  refine means_end ?_
  subst hB
  refine ⟨nw, fun i => s.toks + i, rfl, ⟨?_, ?_, ?_, ?_, ?_, ?_, ?_, ?_, True.intro⟩, O.fresh 60, O.fresh 59, high_new KX hnw, .inr ⟨nw, fun i => s.toks + i, ⟨?_, ?_, ?_, ?_, ?_, ?_, ?_, ?_, ?_, True.intro⟩, high_new KX hnw⟩, KtIn.of_rep O D, D.keep, rfl, rfl⟩
  · exact D.at 61 (by kernel_rfl) (by kernel_rfl)
  · exact D.at 60 (by kernel_rfl) (by kernel_rfl)
  · exact D.at 62 (by kernel_rfl) (by kernel_rfl)
  · exact D.at 16 (by kernel_rfl) (by kernel_rfl)
  · exact D.at 17 (by kernel_rfl) (by kernel_rfl)
  · exact D.at 24 (by kernel_rfl) (by kernel_rfl)
  · exact D.at 25 (by kernel_rfl) (by kernel_rfl)
  · exact D.at 2 (by kernel_rfl) (by kernel_rfl)
  · exact D.at 0 (by kernel_rfl) (by kernel_rfl)
  · exact D.at 8 (by kernel_rfl) (by kernel_rfl)
  · exact D.at 7 (by kernel_rfl) (by kernel_rfl)
  · exact D.at 16 (by kernel_rfl) (by kernel_rfl)
  · exact D.at 24 (by kernel_rfl) (by kernel_rfl)
  · exact D.at 32 (by kernel_rfl) (by kernel_rfl)
  · exact D.at 40 (by kernel_rfl) (by kernel_rfl)
  · exact D.at 48 (by kernel_rfl) (by kernel_rfl)
  · exact D.at 56 (by kernel_rfl) (by kernel_rfl)
theorem facts_up {h h' : Heap} (k : ∀ b o, h.get? b = some o → h'.get? b = some o) : ∀ {l : List (Addr × Obj)}, Facts h l → Facts h' l
  | [], _ => True.intro
  | _ :: _, ⟨a, b⟩ => ⟨k _ _ a, facts_up k b⟩
theorem upd_high {a : Nat → Nat} (h : ∀ j, 95 ≤ a j) : ∀ (l : List (Nat × Nat)), (∀ p ∈ l, 95 ≤ p.2) → ∀ j, 95 ≤ upd a l j
  | [], _, j => h j
  | p :: l, H, j => by
    unfold upd
    split
    · exact H p (.head _)
    · exact upd_high h l (fun q hq => H q (.tail _ hq)) j
theorem at_eq {h : Heap} {x y : Addr} {o o' : Obj} (e : h.get? x = some o) (hx : x = y) (ho : o = o') : h.get? y = some o' := hx ▸ ho ▸ e
theorem cmp_warm (w : World) (s : Shared) (KX : KtIn (kt w.params) s.heap) (f : Addr) (a : Nat → Addr) (τ : Nat → Nat) (hW : Facts s.heap (kWarm w a τ)) (h95 : ∀ j, 95 ≤ a j) :
    codeAny (model prg w) (Ar 750 4500) (.call (.ref 39) ⟨[.ref f], []⟩)
      (fun r s' => ∃ a τ, r = .ok (.ret (.ref (a 60))) ∧ Facts s'.heap (kRel w f a τ) ∧ s.heap.get? (a 60) = none ∧ s.heap.get? (a 59) = none ∧ (∀ j, 95 ≤ a j) ∧ TabK w s'.heap ∧ KtIn (kt w.params) s'.heap ∧ (∀ b o, s.heap.get? b = some o → b ∉ [34] → s'.heap.get? b = some o) ∧ Same s s') s := by
  obtain ⟨nw, hnw⟩ := nw_ex s.heap.objs.size
  have O := ok_ro hnw KX hW
  have D := rep_ro (s := s) (nw := nw) (k := kt w.params) (ro := kWarm w a τ)
  refine start_s rfl ?_
  let M : SM := SM.of s nw (kt w.params) [] (kWarm w a τ)
  generalize hB : (SB.mk prg w _ _ _ _) = B
  run_tac discard goOn
  refine means_end ?_
  subst hB
  have kp : ∀ b o, s.heap.get? b = some o → h.get? b = some o := fun b o e => D.keep b o e List.not_mem_nil
  have W' : Facts h (kWarm w a τ) := facts_up kp hW
  refine ⟨upd a [(1, nw 1), (2, nw 2), (9, nw 6), (16, nw 7), (17, nw 8), (24, nw 9), (32, nw 11), (40, nw 13), (48, nw 15), (56, nw 17), (57, nw 18), (59, nw 20), (60, nw 21), (61, nw 22)], upd τ [(0, s.toks + 0), (9, s.toks + 3), (8, s.toks + 2), (13, s.toks + 7), (12, s.toks + 6), (11, s.toks + 5), (16, s.toks + 10), (24, s.toks + 11), (33, s.toks + 12), (42, s.toks + 13), (51, s.toks + 14), (60, s.toks + 15), (69, s.toks + 16), (70, s.toks + 17), (72, s.toks + 19), (74, s.toks + 21), (75, s.toks + 22), (73, s.toks + 20)], rfl, ⟨?_, ?_, ?_, ?_, ?_, ?_, ?_, ?_, True.intro⟩, O.fresh 21, O.fresh 20, upd_high h95 _ ?_, .inr ⟨a, τ, W', h95⟩, KtIn.of_rep O D, fun b o e _ => kp b o e, rfl, rfl⟩
  · exact D.at 21 (by kernel_rfl) (by kernel_rfl)
  · exact D.at 20 (by kernel_rfl) (by kernel_rfl)
  · exact D.at 22 (by kernel_rfl) (by kernel_rfl)
  · exact at_eq W'.2.2.2.1 (by kernel_rfl) (by kernel_rfl)
  · exact D.at 7 (by kernel_rfl) (by kernel_rfl)
  · exact at_eq W'.2.2.2.2.1 (by kernel_rfl) (by kernel_rfl)
  · exact D.at 9 (by kernel_rfl) (by kernel_rfl)
  · exact D.at 1 (by kernel_rfl) (by kernel_rfl)
  · intro p hp
    simp only [List.mem_cons, List.not_mem_nil, or_false] at hp
    rcases hp with rfl | rfl | rfl | rfl | rfl | rfl | rfl | rfl | rfl | rfl | rfl | rfl | rfl | rfl <;> exact high_new KX hnw _
theorem cmp_call (w : World) (s : Shared) (KX : KtIn (kt w.params) s.heap) (f : Addr) (hN : TabK w s.heap) :
    codeAny (model prg w) (Ar 750 4500) (.call (.ref 39) ⟨[.ref f], []⟩)
      (fun r s' => ∃ a τ, r = .ok (.ret (.ref (a 60))) ∧ Facts s'.heap (kRel w f a τ) ∧ s.heap.get? (a 60) = none ∧ s.heap.get? (a 59) = none ∧ (∀ j, 95 ≤ a j) ∧ TabK w s'.heap ∧ KtIn (kt w.params) s'.heap ∧ (∀ b o, s.heap.get? b = some o → b ∉ [34] → s'.heap.get? b = some o) ∧ Same s s') s := by
  rcases hN with h | ⟨a, τ, h, h9⟩
  · exact cmp_first w s KX f h
  · exact cmp_warm w s KX f a τ h h9
theorem high_off {a : Addr} (h : 95 ≤ a) {Y : List Addr} (hy : ∀ y ∈ Y, y ∈ [34, 48, 62, 91]) : a ∉ Y := fun m => by
  have := hy a m
  simp only [List.mem_cons, List.not_mem_nil, or_false] at this
  have h' : (95 : Nat) ≤ a := h
  rcases this with e | e | e | e <;> (rw [e] at h'; exact absurd h' (by decide))
end Mine
end
section
open PySem PySem.W PySem.W.X PyProof.Rows
set_option Elab.async false
set_option maxRecDepth 100000
set_option maxHeartbeats 0
set_option linter.unusedVariables false
namespace Mine
open PySem.SeqAt
theorem lst_is (vs : Array Value) (n : Nat) : lst vs n = { cls := .type "list", dict := none, data := .seq vs n, slots := #[] } := by
  unfold lst; rw [sList_eq]
/-- a built-in's slot, met -/
theorem slot_meets {w : World} {A : Around} {s : Shared} {T : String} {name : Str} {id : String} {B : Builtin} {self : Value} {rest : List Value} {S : PySem.Spec} {R : Result → Shared → Prop} (slot : Slot T name id) (hT : s.TypeIs self T)
    (entry : entryFor table id = some B) (args : argsOk id ⟨self :: rest, []⟩) (g : Meets (B ⟨self :: rest, []⟩) S) (h : S A R s) :
    codeAny (model prg w) A (.call (.builtin id) ⟨self :: rest, []⟩) R s :=
  codeAny_call_builtin slot.plain entry (slot.check _ _ _ _ _ _ _ _ hT args (g prg w A R s h))
theorem get_size {h : Heap} : h.get? h.objs.size = none := by
  cases q : h.get? h.objs.size with
  | none => rfl
  | some o => exact absurd (Heap.lt_size q) (Nat.lt_irrefl _)
theorem ints_rep (v : Int) (t : Nat) : ∀ n, IntsAre ((List.replicate n (#[.int v t] : Array Value)).foldl (fun x y => x ++ y) #[]).toList (List.replicate n v) := by
  have h : ∀ n (a : Array Value) (k : List Int), IntsAre a.toList k → IntsAre ((List.replicate n (#[.int v t] : Array Value)).foldl (fun x y => x ++ y) a).toList (k ++ List.replicate n v) := by
    intro n
    induction n with
    | zero => intro a k h; simpa using h
    | succ n ih =>
      intro a k h
      rw [List.replicate_succ, List.foldl_cons, List.replicate_succ]
      have := ih (a ++ #[.int v t]) (k ++ [v]) (by simpa using h.append (.cons v t .nil))
      simpa using this
  intro n
  simpa using h n #[] [] .nil
open Lean Meta Elab Tactic in
noncomputable def sSet : String := by
  run_tac do (← getMainGoal).assign (← ZFast.litTwin (mkStrLit "set") "set").1
open Lean Meta Elab Tactic in
theorem sSet_eq : "set" = sSet := by
  run_tac do (← getMainGoal).assign (← ZFast.litTwin (mkStrLit "set") "set").2
noncomputable def setO (es : Array (Int × Value)) (ep : Nat) (t : SetTable) : Obj := ⟨.type sSet, none, .set es ep t, #[]⟩
theorem firstMet_nodup (val : Nat → Int) : ∀ n, (∀ i j, i < n → j < n → val i = val j → i = j) → (firstMet val n).length = n
  | 0, _ => rfl
  | n + 1, h => by
    have ih := firstMet_nodup val n (fun i j hi hj => h i j (by omega) (by omega))
    rw [firstMet_succ]
    unfold step_dedup
    have hn : (firstMet val n).any (· == val n) = false := by
      rw [firstMet_any]
      cases q : ((List.range n).map val).any (· == val n) with
      | false => rfl
      | true =>
        obtain ⟨x, hx, hx'⟩ := List.any_eq_true.mp q
        obtain ⟨i, hi, rfl⟩ := List.mem_map.mp hx
        have := h i n (by have := List.mem_range.mp hi; omega) (by omega) (by simpa using hx')
        have := List.mem_range.mp hi
        omega
    have hm : val n ∉ firstMet val n := fun m => by
      have := List.any_eq_false.mp hn (val n) m
      simp at this
    rw [if_neg (by simpa using hm), List.length_append, ih]; rfl
theorem nodup_inj : ∀ {ks : List Int}, ks.Nodup → ∀ {i j : Nat} (h1 : i < ks.length) (h2 : j < ks.length), ks[i] = ks[j] → i = j
  | k :: ks, hd, 0, 0, _, _, _ => rfl
  | k :: ks, hd, 0, j + 1, h1, h2, e => absurd (List.getElem_mem (l := ks) (n := j) (by simpa using h2)) (by
      have := (List.nodup_cons.mp hd).1
      simp only [List.getElem_cons_zero, List.getElem_cons_succ] at e
      rw [← e]; exact this)
  | k :: ks, hd, i + 1, 0, h1, h2, e => absurd (List.getElem_mem (l := ks) (n := i) (by simpa using h1)) (by
      have := (List.nodup_cons.mp hd).1
      simp only [List.getElem_cons_zero, List.getElem_cons_succ] at e
      rw [e]; exact this)
  | k :: ks, hd, i + 1, j + 1, h1, h2, e => by
      have := nodup_inj (List.nodup_cons.mp hd).2 (i := i) (j := j) (by simpa using h1) (by simpa using h2) (by simpa using e)
      rw [this]
theorem set_wp (w : World) (A : Around) (hh : A.handled = none) (s : Shared) (l : Addr) (vs : Array Value) (n : Nat) (ks : List Int) (hl : s.heap.get? l = some (lst vs n)) (hi : IntsAre vs.toList ks) (hb : vs.size ≤ 100) (hd : ks.Nodup) :
    wpAny (model prg w) A (PySem.call (.type "set") [.ref l]) (fun v s' => ∃ a es ep t, v = .ref a ∧ s'.heap.get? a = some (setO es ep t) ∧ es.size = vs.size ∧ t.fits es.size = true ∧ s.heap.get? a = none ∧ (∀ b o, s.heap.get? b = some o → b ∉ ([] : List Addr) → s'.heap.get? b = some o) ∧ Same s s') (fun _ _ => False) s := by
  rw [lst_is] at hl
  have e := IntsAre.length hi
  refine PySem.call_set_list (items := vs) (ns := ks) hh ⟨_, hl, rfl, n, rfl⟩ hi (by unfold scanBound; omega) fun h' tk hS hk => ?_
  have hf : (firstMet (fun i => ks.getD i 0) vs.size).length = vs.size := by
    refine firstMet_nodup _ _ fun i j h1 h2 h3 => ?_
    have l1 : i < ks.length := by simp at e; omega
    have l2 : j < ks.length := by simp at e; omega
    simp only [List.getD_eq_getElem?_getD, List.getElem?_eq_getElem l1, List.getElem?_eq_getElem l2, Option.getD_some] at h3
    exact nodup_inj hd l1 l2 h3
  rw [hf] at hS
  obtain ⟨o, es, ep, t, ho, hex, hdt, _, _, _, hft, hsz⟩ := hS
  refine ⟨_, es, ep, t, rfl, ?_, hsz, hft, get_size, fun b o e _ => hk b o (Heap.lt_size e) e, rfl, rfl⟩
  obtain ⟨c, dd, dt, sl⟩ := o
  obtain ⟨x1, x2, x3⟩ := hex
  simp only at x1 x2 x3 hdt
  subst x1 x2 x3 hdt
  unfold setO
  rw [← sSet_eq]; exact ho
theorem len_wp (w : World) (A : Around) (hh : A.handled = none) (s : Shared) (a : Addr) (es : Array (Int × Value)) (ep : Nat) (t : SetTable) (ho : s.heap.get? a = some (setO es ep t)) (hf : t.fits es.size = true) (hb : es.size ≤ 100) :
    wpAny (model prg w) A (PySem.call (.builtin "len") [.ref a]) (fun v s' => ∃ t, v = .int (es.size : Int) t ∧ (∀ b o, s.heap.get? b = some o → b ∉ ([] : List Addr) → s'.heap.get? b = some o) ∧ Same s s') (fun _ _ => False) s := by
  refine call_len_set ho ⟨?_, rfl, rfl⟩ rfl hf (by omega) ⟨_, rfl, fun _ _ e _ => e, rfl, rfl⟩
  show Value.type sSet = _
  rw [← sSet_eq]
theorem contains_call (w : World) (s : Shared) (d u : Nat) (l : Addr) (vs : Array Value) (n : Nat) (ks : List Int) (hl : s.heap.get? l = some (lst vs n)) (h1 : IntsAre vs.toList ks) (x : Int) (t : Nat) :
    codeAny (model prg w) (Ar d u) (.call (.builtin "list.__contains__") ⟨[.ref l, .int x t], []⟩)
      (fun r s' => r = .ok (.ret (.bool (decide (x ∈ ks)))) ∧ (∀ b o, s.heap.get? b = some o → b ∉ ([] : List Addr) → s'.heap.get? b = some o) ∧ Same s s') s := by
  rw [lst_is] at hl
  refine slot_meets F.slot_list_contains ⟨_, hl, rfl⟩ F.entry_list_contains (F.args_list_contains_2 _ _) (list_containsAt l vs n none #[] (.int x t) (fun v => match v with | .int y _ => y == x | _ => false)) ⟨hl, fun y hy => ?_, ?_, fun _ _ e _ => e, rfl, rfl⟩
  · obtain ⟨k, tk, rfl⟩ := h1.all y (by simpa using hy)
    exact EqAt.int_int k tk x t
  · have : vs.any (fun v => match v with | .int y _ => y == x | _ => false) = decide (x ∈ ks) := by
      rw [← Array.any_toList]
      revert h1
      generalize vs.toList = L
      intro h1
      induction h1 with
      | nil => rfl
      | cons k tk h ih =>
        rw [List.any_cons, ih]
        by_cases q : k = x
        · subst q; simp
        · have q' : ¬ x = k := fun e => q e.symm
          simp [q, q']
    rw [this]
theorem max_wp (w : World) (A : Around) (hh : A.handled = none) (s : Shared) (l : Addr) (vs : Array Value) (n : Nat) (ks : List Int) (hl : s.heap.get? l = some (lst vs n)) (hi : IntsAre vs.toList ks) (hne : 0 < ks.length) :
    wpAny (model prg w) A (PySem.call (.builtin "max") [.ref l]) (fun v s' => ∃ M t, v = .int M t ∧ M ∈ ks ∧ (∀ a ∈ ks, a ≤ M) ∧ (∀ b o, s.heap.get? b = some o → b ∉ ([] : List Addr) → s'.heap.get? b = some o) ∧ Same s s') (fun _ _ => False) s := by
  rw [lst_is] at hl
  obtain ⟨xs, e⟩ := hi.allInts.items
  have e' : vs = intItems xs := by rw [← e]
  have hns : ks = xs.toList.map (·.1) := by
    rw [← hi.numsOf, ← nums_intItems, ← e]
  have hsz : 0 < xs.size := by
    have h3 := hne; rw [hns, List.length_map, Array.length_toList] at h3; exact h3
  subst e'
  refine max_intList hh ⟨_, hl, rfl, n, rfl⟩ hsz fun v h' tk hv hk => ?_
  obtain ⟨t, rfl⟩ := intItems_at hv
  obtain ⟨h1, h2⟩ := argBest_gt (numAt xs) (xs.size - 1)
  refine ⟨_, t, rfl, ?_, fun a ha => ?_, fun b o e _ => hk b o e, rfl, rfl⟩
  · rw [hns, numAt_eq]; exact getD_mem (by rw [List.length_map, Array.length_toList]; omega)
  · rw [hns] at ha
    obtain ⟨j, hj, rfl⟩ := mem_getD ha
    rw [List.length_map, Array.length_toList] at hj
    rw [← numAt_eq]; exact h2 j (by omega)
theorem min_wp (w : World) (A : Around) (hh : A.handled = none) (s : Shared) (l : Addr) (vs : Array Value) (n : Nat) (ks : List Int) (hl : s.heap.get? l = some (lst vs n)) (hi : IntsAre vs.toList ks) (hne : 0 < ks.length) :
    wpAny (model prg w) A (PySem.call (.builtin "min") [.ref l]) (fun v s' => ∃ M t, v = .int M t ∧ M ∈ ks ∧ (∀ a ∈ ks, M ≤ a) ∧ (∀ b o, s.heap.get? b = some o → b ∉ ([] : List Addr) → s'.heap.get? b = some o) ∧ Same s s') (fun _ _ => False) s := by
  rw [lst_is] at hl
  obtain ⟨xs, e⟩ := hi.allInts.items
  have e' : vs = intItems xs := by rw [← e]
  have hns : ks = xs.toList.map (·.1) := by
    rw [← hi.numsOf, ← nums_intItems, ← e]
  have hsz : 0 < xs.size := by
    have h3 := hne; rw [hns, List.length_map, Array.length_toList] at h3; exact h3
  subst e'
  refine min_intList hh ⟨_, hl, rfl, n, rfl⟩ hsz fun v h' tk hv hk => ?_
  obtain ⟨t, rfl⟩ := intItems_at hv
  obtain ⟨h1, h2⟩ := argBest_lt (numAt xs) (xs.size - 1)
  refine ⟨_, t, rfl, ?_, fun a ha => ?_, fun b o e _ => hk b o e, rfl, rfl⟩
  · rw [hns, numAt_eq]; exact getD_mem (by rw [List.length_map, Array.length_toList]; omega)
  · rw [hns] at ha
    obtain ⟨j, hj, rfl⟩ := mem_getD ha
    rw [List.length_map, Array.length_toList] at hj
    rw [← numAt_eq]; exact h2 j (by omega)
end Mine
end
section
open PySem PySem.W PySem.W.X PyProof.Rows
set_option Elab.async false
set_option maxRecDepth 100000
set_option maxHeartbeats 1000000
set_option linter.unusedVariables false
namespace Mine
/-- what may be touched: lists, frames, cells, iterators -/
def softO (o : Obj) : Bool := match o.data with
  | .seq .. => true
  | .dict .. => true
  | .cell _ => true
  | .fields vs => Nat.ble vs.size 4 && (match (vs[1]? : Option Value) with | some (.str ..) => false | _ => true)
  | _ => false
theorem off_soft {h : Heap} {a b : Addr} {o o' : Obj} (e : h.get? a = some o) (s : softO o = true) (e' : h.get? b = some o') (s' : softO o' = false) : b ≠ a := by
  rintro rfl
  rw [e] at e'; cases e'
  rw [s] at s'; cases s'
theorem soft_code {o : Obj} {vs : Array Value} {q : Str} {t : Tok} (d : o.data = .fields vs) (e : vs[1]? = some (.str q t)) : softO o = false := by
  unfold softO; rw [d]; show (Nat.ble vs.size 4 && (match (vs[1]? : Option Value) with | some (.str ..) => false | _ => true)) = false
  rw [e]; exact Bool.and_false _
/-- the table of a def's inner codes: none yet, or the one -/
def TabP (P : Addr) (l c : Nat) (q : Str) (h : Heap) : Prop := h.get? P = some (tabObj #[]) ∨ ∃ c' o vs t, 95 ≤ c' ∧ h.get? P = some (tabObj #[rawInt l, rawInt c, .ref c']) ∧ h.get? c' = some o ∧ o.data = .fields vs ∧ vs[1]? = some (.str q t)
theorem TabP.up {P : Addr} {l c : Nat} {q : Str} {h h' : Heap} (H : TabP P l c q h) (kP : ∀ o, h.get? P = some o → h'.get? P = some o) (kc : ∀ b o, 95 ≤ b → softO o = false → h.get? b = some o → h'.get? b = some o) : TabP P l c q h' := by
  rcases H with e | ⟨c', o, vs, t, h9, e, g, d, v⟩
  · exact .inl (kP _ e)
  · exact .inr ⟨c', o, vs, t, h9, kP _ e, kc _ _ h9 (soft_code d v) g, d, v⟩
theorem TabP.keeps {P : Addr} {l c : Nat} {q : Str} {h h' : Heap} {Y : List Addr} (H : TabP P l c q h) (k : Keeps Y h h') (y1 : P ∉ Y) (hy : ∀ y ∈ Y, y ∈ ([34, 48, 62, 91] : List Addr)) : TabP P l c q h' :=
  H.up (fun o e => k _ _ e y1) fun b o h9 _ e => k b o e (high_off h9 hy)
theorem TabP.touch {P : Addr} {l c : Nat} {q : Str} {h h' : Heap} {a : Addr} {o : Obj} (H : TabP P l c q h) (hP : P < 95) (h9 : 95 ≤ a) (e : h.get? a = some o) (so : softO o = true) (k : ∀ b o, b ≠ a → h.get? b = some o → h'.get? b = some o) : TabP P l c q h' :=
  H.up (fun o e => k _ _ (fun q => by subst q; exact absurd h9 (Nat.not_le.mpr hP)) e) fun b o _ s e' => k b o (off_soft e so e' s) e'
def qToldN : Str := ⟨#[95, 108, 97, 119, 95, 110, 111, 116, 101, 100, 46, 60, 108, 111, 99, 97, 108, 115, 62, 46, 116, 111, 108, 100]⟩
def qToldR : Str := ⟨#[95, 108, 97, 119, 95, 114, 117, 108, 101, 115, 46, 60, 108, 111, 99, 97, 108, 115, 62, 46, 116, 111, 108, 100]⟩
def TabN (w : World) (h : Heap) : Prop := TabP 62 84 4 qToldN h
def TabR (w : World) (h : Heap) : Prop := TabP 48 73 4 qToldR h
theorem TabN.keeps {w : World} {h h' : Heap} {Y : List Addr} (H : TabN w h) (k : Keeps Y h h') (y1 : (62 : Addr) ∉ Y) (hy : ∀ y ∈ Y, y ∈ ([34, 48, 62, 91] : List Addr)) : TabN w h' := TabP.keeps H k y1 hy
theorem TabR.keeps {w : World} {h h' : Heap} {Y : List Addr} (H : TabR w h) (k : Keeps Y h h') (y1 : (48 : Addr) ∉ Y) (hy : ∀ y ∈ Y, y ∈ ([34, 48, 62, 91] : List Addr)) : TabR w h' := TabP.keeps H k y1 hy
/-- facts carried over -/
theorem Facts.of {h h' : Heap} : ∀ {l : List (Addr × Obj)}, Facts h l → (∀ p ∈ l, h.get? p.1 = some p.2 → h'.get? p.1 = some p.2) → Facts h' l
  | [], _, _ => True.intro
  | p :: l, f, k => ⟨k p List.mem_cons_self f.1, Facts.of f.2 fun q hq => k q (List.mem_cons_of_mem _ hq)⟩
theorem kWarm_ads (w : World) (a : Nat → Addr) (τ : Nat → Nat) : ∀ p ∈ kWarm w a τ, p.1 = 34 ∨ (∃ j, p.1 = a j) ∧ softO p.2 = false := by
  have h : (kWarm w a τ).map (·.1) = [34, a 7, a 6, a 15, a 23, a 31, a 39, a 47, a 55] := by kernel_rfl
  have h2 : (kWarm w a τ).tail.all (fun p => !softO p.2) = true := by kernel_rfl
  generalize kWarm w a τ = L at h h2
  cases L with
  | nil => cases h
  | cons p L =>
    intro q hq
    simp only [List.map_cons, List.cons.injEq] at h
    obtain ⟨h1, h3⟩ := h
    rcases List.mem_cons.mp hq with rfl | hq
    · exact .inl h1
    · refine .inr ⟨?_, by simpa using List.all_eq_true.mp h2 q hq⟩
      have : q.1 ∈ L.map (·.1) := List.mem_map.mpr ⟨q, hq, rfl⟩
      rw [h3] at this
      simp only [List.mem_cons, List.not_mem_nil, or_false] at this
      rcases this with e | e | e | e | e | e | e | e <;> exact ⟨_, e⟩
theorem TabK.up {w : World} {h h' : Heap} (H : TabK w h) (kP : ∀ o, h.get? 34 = some o → h'.get? 34 = some o) (kc : ∀ b o, 95 ≤ b → softO o = false → h.get? b = some o → h'.get? b = some o) : TabK w h' := by
  rcases H with e | ⟨a, τ, f, h9⟩
  · exact .inl (kP _ e)
  · refine .inr ⟨a, τ, f.of fun p hp e => ?_, h9⟩
    rcases kWarm_ads w a τ p hp with q | ⟨⟨j, q⟩, so⟩
    · rw [q] at e ⊢; exact kP _ e
    · exact kc _ _ (by rw [q]; exact h9 j) so e
theorem TabK.keeps {w : World} {h h' : Heap} {Y : List Addr} (H : TabK w h) (k : Keeps Y h h') (y1 : (34 : Addr) ∉ Y) (hy : ∀ y ∈ Y, y ∈ ([34, 48, 62, 91] : List Addr)) : TabK w h' :=
  H.up (fun o e => k _ _ e y1) fun b o h9 _ e => k b o e (high_off h9 hy)
theorem TabK.touch {w : World} {h h' : Heap} {a : Addr} {o : Obj} (H : TabK w h) (h9 : 95 ≤ a) (e : h.get? a = some o) (so : softO o = true) (k : ∀ b o, b ≠ a → h.get? b = some o → h'.get? b = some o) : TabK w h' :=
  H.up (fun o e => k _ _ (fun q => by subst q; exact absurd h9 (by decide)) e) fun b o _ s e' => k b o (off_soft e so e' s) e'
end Mine
end
section
open PySem PySem.W PySem.W.X PyProof.Rows
set_option Elab.async false
set_option maxRecDepth 100000
set_option maxHeartbeats 1000000
set_option linter.unusedVariables false
namespace Vl
open Mine
/-- plain data -/
inductive V where
  | none
  | bool (b : Bool)
  | int (i : Int)
  | str (x : Str)
  | typ (n : String)
  | own (l : List Int)
  | val (x : Value)
  | list (l : List V)
/-- what is left alone: lists in the making, the memory of old -/
structure Av where
  l : List Addr
  B : Addr → Option Obj
  fr : List Env
def Av.add (D : Addr) (X : Av) : Av := ⟨D :: X.l, X.B, X.fr⟩
/-- a frame of a caller's -/
def IsFr (X : Av) (a : Addr) : Prop := ∃ env ∈ X.fr, env.frame = some a
mutual
/-- what a value reads as -/
def Rep (X : Av) (h : Heap) : V → Value → Prop
  | .none, v => v = .none
  | .bool b, v => v = .bool b
  | .int i, v => ∃ t, v = .int i t
  | .str x, v => ∃ t, v = .str x t
  | .typ n, v => v = .type n
  | .val x, v => v = x
  | .own l, v => ∃ a o vs n, v = .ref a ∧ X.B a = some o ∧ o.cls = .type "list" ∧ o.data = .seq vs n ∧ IntsAre vs.toList l
  | .list l, v => ∃ a vs n, v = .ref a ∧ 95 ≤ a ∧ a ∉ X.l ∧ h.get? a = some (lst vs n) ∧ RepL X h l vs.toList
def RepL (X : Av) (h : Heap) : List V → List Value → Prop
  | [], vs => vs = []
  | x :: l, vs => ∃ v r, vs = v :: r ∧ Rep X h x v ∧ RepL X h l r
end
def Lists (X : Av) (h h' : Heap) : Prop := ∀ b vs n, 95 ≤ b → b ∉ X.l → h.get? b = some (lst vs n) → h'.get? b = some (lst vs n)
mutual
theorem Rep.up {X : Av} {h h' : Heap} (k : Lists X h h') : ∀ (x : V) (v : Value), Rep X h x v → Rep X h' x v
  | .none, _, r => r
  | .bool _, _, r => r
  | .int _, _, r => r
  | .str _, _, r => r
  | .typ _, _, r => r
  | .own _, _, r => r
  | .val _, _, r => r
  | .list l, v, ⟨a, vs, n, e, h9, hx, g, r⟩ => ⟨a, vs, n, e, h9, hx, k a vs n h9 hx g, RepL.up k l _ r⟩
theorem RepL.up {X : Av} {h h' : Heap} (k : Lists X h h') : ∀ (l : List V) (vs : List Value), RepL X h l vs → RepL X h' l vs
  | [], _, r => r
  | x :: l, _, ⟨v, r, e, p, q⟩ => ⟨v, r, e, Rep.up k x v p, RepL.up k l r q⟩
end
theorem RepL.len {X : Av} {h : Heap} : ∀ {l : List V} {vs : List Value}, RepL X h l vs → vs.length = l.length
  | [], _, r => by rw [r]; rfl
  | _ :: l, _, ⟨v, r, e, _, q⟩ => by rw [e, List.length_cons, List.length_cons, RepL.len q]
theorem RepL.app {X : Av} {h : Heap} : ∀ {l l' : List V} {vs vs' : List Value}, RepL X h l vs → RepL X h l' vs' → RepL X h (l ++ l') (vs ++ vs')
  | [], _, _, _, r, q => by rw [r]; exact q
  | _ :: _, _, _, _, ⟨v, r, e, p, q⟩, z => by rw [e]; exact ⟨v, r ++ _, rfl, p, RepL.app q z⟩
theorem RepL.at {X : Av} {h : Heap} : ∀ {l : List V} {vs : List Value}, RepL X h l vs → ∀ (i : Nat) (x : V), l[i]? = some x → ∃ v, vs[i]? = some v ∧ Rep X h x v
  | [], _, r, i, x, e => by simp at e
  | y :: l, _, ⟨v, r, ev, p, q⟩, 0, x, e => by rw [ev]; exact ⟨v, rfl, by simpa using (by simpa using e : y = x) ▸ p⟩
  | y :: l, _, ⟨v, r, ev, p, q⟩, i + 1, x, e => by rw [ev]; exact RepL.at q i x (by simpa using e)
theorem RepL.back {X : Av} {h : Heap} : ∀ {l : List V} {vs : List Value}, RepL X h l vs → ∀ (i : Nat) (v : Value), vs[i]? = some v → ∃ x, l[i]? = some x ∧ Rep X h x v
  | [], _, r, i, v, e => by rw [r] at e; simp at e
  | y :: l, _, ⟨u, r, ev, p, q⟩, 0, v, e => by rw [ev] at e; exact ⟨y, rfl, by simpa using (by simpa using e : u = v) ▸ p⟩
  | y :: l, _, ⟨u, r, ev, p, q⟩, i + 1, v, e => by rw [ev] at e; exact RepL.back q i v (by simpa using e)
theorem isList_of {h : Heap} {a : Addr} {vs : Array Value} {n : Nat} (e : h.get? a = some (lst vs n)) : h.IsList a vs := by
  rw [lst_is] at e; exact ⟨_, e, rfl, _, rfl⟩
/-- what an expression keeps: all that stands above the head, frames by their names -/
structure Ext (s s' : Shared) : Prop where
  keep : ∀ b o, 95 ≤ b → tagOf o ≠ 3 → s.heap.get? b = some o → s'.heap.get? b = some o
  ns : ∀ L m, 95 ≤ L → s.heap.Ns L m → s'.heap.Ns L m
  al : ∀ b o, s.heap.get? b = some o → ∃ o', s'.heap.get? b = some o'
  same : Same s s'
theorem Ext.refl (s : Shared) : Ext s s := ⟨fun _ _ _ _ e => e, fun _ _ _ e => e, fun _ o e => ⟨o, e⟩, Same.refl s⟩
theorem Ext.trans {s s' s'' : Shared} (a : Ext s s') (b : Ext s' s'') : Ext s s'' :=
  ⟨fun x o h t e => b.keep x o h t (a.keep x o h t e), fun L m h e => b.ns L m h (a.ns L m h e), fun x o e => let ⟨o', e'⟩ := a.al x o e; b.al x o' e', a.same.trans b.same⟩
theorem Ext.lists {X : Av} {s s' : Shared} (x : Ext s s') : Lists X s.heap s'.heap := fun b vs n h _ e => x.keep b _ h (by show (2 : Nat) ≠ 3; decide) e
theorem Ext.of {s s' : Shared} (k : ∀ b o, s.heap.get? b = some o → s'.heap.get? b = some o) (e : Same s s') : Ext s s' :=
  ⟨fun b o _ _ e => k b o e, fun L m _ n => n.keeps k, fun b o e => ⟨o, k b o e⟩, e⟩
/-- what holds of the state all the time -/
structure Inv (w : World) (X : Av) (s : Shared) : Prop where
  kt : KtIn (kt w.params) s.heap
  n : TabN w s.heap
  k : TabK w s.heap
  r : TabR w s.heap
  x : ∀ a ∈ X.l, 95 ≤ a ∧ ∃ o, s.heap.get? a = some o
  bs : ∀ b o, X.B b = some o → s.heap.get? b = some o
  f : ∀ env ∈ X.fr, env.scope.kind ≠ .module ∧ ∃ L o, env.frame = some L ∧ 95 ≤ L ∧ X.B L = none ∧ s.heap.get? L = some o ∧ tagOf o = 3
/-- the tables that grow are no part of the memory of old -/
def Av.tabs (X : Av) : Prop := ∀ b ∈ ([34, 48, 62] : List Addr), X.B b = none
theorem KtIn.full {t : KT} {h h' : Heap} (K : KtIn t h) (k : ∀ b o, h.get? b = some o → h'.get? b = some o) : KtIn t h' := fun a o e => k a o (K a o e)
theorem Inv.of {w : World} {X : Av} {s s' : Shared} (I : Inv w X s) (k : ∀ b o, s.heap.get? b = some o → s'.heap.get? b = some o) : Inv w X s' :=
  ⟨KtIn.full I.kt k, I.n.keeps (Y := []) (fun b o e _ => k b o e) List.not_mem_nil (fun _ h => nomatch h), I.k.keeps (Y := []) (fun b o e _ => k b o e) List.not_mem_nil (fun _ h => nomatch h),
   I.r.keeps (Y := []) (fun b o e _ => k b o e) List.not_mem_nil (fun _ h => nomatch h), fun a ha => let ⟨h, o, e⟩ := I.x a ha; ⟨h, o, k a o e⟩, fun b o e => k b o (I.bs b o e), fun e he => let ⟨h1, L, o, h2, h3, h4, h5, h6⟩ := I.f e he; ⟨h1, L, o, h2, h3, h4, k L o h5, h6⟩⟩
theorem Inv.frNew {w : World} {X : Av} {s : Shared} (I : Inv w X s) {a : Addr} (h : s.heap.get? a = none) : ¬ IsFr X a := fun ⟨e, he, hf⟩ => by
  obtain ⟨_, L, o, h2, _, _, h5, _⟩ := I.f e he
  rw [hf] at h2; cases h2
  rw [h] at h5; cases h5
theorem Inv.frTag {w : World} {X : Av} {s : Shared} (I : Inv w X s) {a : Addr} {o : Obj} (h : s.heap.get? a = some o) (t : tagOf o ≠ 3) : ¬ IsFr X a := fun ⟨e, he, hf⟩ => by
  obtain ⟨_, L, o, h2, _, _, h5, h6⟩ := I.f e he
  rw [hf] at h2; cases h2
  rw [h] at h5; cases h5
  exact t h6
theorem Inv.nb {w : World} {X : Av} {s : Shared} (I : Inv w X s) {a : Addr} (h : s.heap.get? a = none) : X.B a = none := by
  cases e : X.B a with
  | none => rfl
  | some o => rw [I.bs a o e] at h; cases h
/-- an environment's table, as far as it is asked -/
structure EnvIs (K : List (Str × NameKind)) (env : Env) : Prop where
  names : env.scope.names = K
  kind : env.scope.kind = .function
  glob : env.globals = mainGlobals
  blt : env.builtins = builtinsNs
theorem EnvIs.k {K : List (Str × NameKind)} {env : Env} (e : EnvIs K env) (x : Str) : env.kindOf x = K.lookup x := by unfold Env.kindOf; rw [e.names]
def Bound (env : Env) (h : Heap) (x : Str) (v : Value) : Prop :=
  (env.kindOf x = some .local ∧ 95 ≤ env.locals ∧ ∃ m, h.Ns env.locals m ∧ m x = some v) ∨ ((env.kindOf x = some .cell ∨ env.kindOf x = some .free) ∧ ∃ c, env.cells.lookup x = some c ∧ 95 ≤ c ∧ h.IsCell c (some v))
def Has (X : Av) (env : Env) (h : Heap) (ρ : List (Str × V)) : Prop := ∀ x v, ρ.lookup x = some v → ∃ u, Rep X h v u ∧ Bound env h x u
theorem Bound.up {env : Env} {s s' : Shared} (k : Ext s s') {x : Str} {v : Value} (b : Bound env s.heap x v) : Bound env s'.heap x v := by
  rcases b with ⟨a, h, m, n, e⟩ | ⟨a, c, e, h, o, g, d⟩
  · exact .inl ⟨a, h, m, k.ns _ _ h n, e⟩
  · exact .inr ⟨a, c, e, h, o, k.keep c o h (by unfold tagOf; rw [d]; show (6 : Nat) ≠ 3; decide) g, d⟩
theorem Has.up {X : Av} {env : Env} {s s' : Shared} (k : Ext s s') {ρ : List (Str × V)} (h : Has X env s.heap ρ) : Has X env s'.heap ρ := fun x v e =>
  let ⟨u, r, b⟩ := h x v e; ⟨u, Rep.up k.lists v u r, b.up k⟩
structure AOk (A : Around) : Prop where
  hd : A.handled = none
  dp : A.depth ≤ 600
  un : A.units ≤ 3000
/-- an expression gives v -/
def Ev (w : World) (φ : Around → Prop) (X : Av) (K : List (Str × NameKind)) (ρ : List (Str × V)) (e : Expr) (v : V) : Prop :=
  ∀ (env : Env) (A : Around) (s : Shared) (Q : Value → Shared → Prop) (E : Value → Shared → Prop), φ A → AOk A → EnvIs K env → Inv w X s → Has X env s.heap ρ →
    (∀ u s', Inv w X s' → Ext s s' → Rep X s'.heap v u → Q u s') → wpAny (model prg w) A (eval e env) Q E s
/-- a test is decided -/
def Tr (w : World) (φ : Around → Prop) (X : Av) (K : List (Str × NameKind)) (ρ : List (Str × V)) (e : Expr) (b : Bool) : Prop :=
  ∀ (env : Env) (A : Around) (s : Shared) (Q : Bool → Shared → Prop) (E : Value → Shared → Prop), φ A → AOk A → EnvIs K env → Inv w X s → Has X env s.heap ρ →
    (∀ s', Inv w X s' → Ext s s' → Q b s') → wpAny (model prg w) A (isTrue e env (eval e env)) Q E s
def EvL (w : World) (φ : Around → Prop) (X : Av) (K : List (Str × NameKind)) (ρ : List (Str × V)) (es : List Expr) (vs : List V) : Prop :=
  ∀ (env : Env) (A : Around) (pos : Pos) (s : Shared) (Q : List Value → Shared → Prop) (E : Value → Shared → Prop), φ A → AOk A → EnvIs K env → Inv w X s → Has X env s.heap ρ →
    (∀ us s', Inv w X s' → Ext s s' → RepL X s'.heap vs us → Q us s') → wpAny (model prg w) A (spliced (backTo pos (starEach es env))) Q E s
variable {w : World} {X : Av} {φ : Around → Prop} {K : List (Str × NameKind)} {ρ : List (Str × V)}
theorem ext_tok (s : Shared) (t : Nat) : Ext s { s with toks := t } := Ext.of (fun _ _ e => e) ⟨rfl, rfl⟩
theorem inv_tok {s : Shared} (I : Inv w X s) (t : Nat) : Inv w X { s with toks := t } := I.of fun _ _ e => e
theorem ext_push (s : Shared) (o : Obj) (t : Nat) : Ext s { s with heap := s.heap.push o, toks := t } := Ext.of (fun _ _ e => Heap.get?_push_of_some _ e) ⟨rfl, rfl⟩
theorem inv_push {s : Shared} (I : Inv w X s) (o : Obj) (t : Nat) : Inv w X { s with heap := s.heap.push o, toks := t } := I.of fun _ _ e => Heap.get?_push_of_some _ e
theorem Inv.new {s : Shared} (I : Inv w X s) : s.heap.objs.size ∉ X.l := fun m => let ⟨_, o, e⟩ := I.x _ m; absurd (Heap.lt_size e) (Nat.lt_irrefl _)
theorem Inv.lt {s : Shared} (I : Inv w X s) {a : Addr} (h : a ∈ X.l) : a < s.heap.objs.size := let ⟨_, o, e⟩ := I.x _ h; Heap.lt_size e
theorem Inv.high {s : Shared} (I : Inv w X s) : 95 ≤ s.heap.objs.size := high_new (nw := fun j => s.heap.objs.size + j) I.kt (fun _ => rfl) 0
/-- a bound name read -/
theorem load_bound {K : List (Str × NameKind)} {env : Env} {A : Around} {s : Shared} {x : Str} {u : Value} {Q : Value → Shared → Prop} {E : Value → Shared → Prop} (hE : EnvIs K env) (b : Bound env s.heap x u) (hd : (x == ("__classdict__" : Str)) = false) (k : Q u s) : wpAny (model prg w) A (loadName env x) Q E s := by
  rcases b with ⟨a, h, m, n, e⟩ | ⟨a | a, c, e, h, g⟩
  · exact wpAny_loadName_local hE.kind a n e k
  · exact wpAny_loadName_cell hE.kind a e g k
  · exact wpAny_loadName_free hE.kind a e g k hd
theorem ev_name {x : Str} {pos : Pos} {v : V} (e : ρ.lookup x = some v) (hd : (x == ("__debug__" : Str) || x == ("__classdict__" : Str)) = false) : Ev w φ X K ρ (.Name x pos) v := by
  intro env A s Q E hP hA hE I H k
  obtain ⟨u, r, b⟩ := H x v e
  obtain ⟨h1, h2⟩ := (Bool.or_eq_false_iff).mp hd
  exact wpAny_Name (load_bound hE b h2 (k u s I (Ext.refl s) r)) h1
theorem ev_int {i : Int} {k : Nat} {pos : Pos} : Ev w φ X K ρ (.Constant (.int i) k pos) (.int i) := by
  intro env A s Q E hP hA hE I H k
  exact wpAny_Constant_int (k _ _ (inv_tok I _) (ext_tok s _) ⟨_, rfl⟩)
theorem ev_none {k : Nat} {pos : Pos} : Ev w φ X K ρ (.Constant .none k pos) .none := by
  intro env A s Q E hP hA hE I H k
  exact wpAny_Constant_none (k _ _ I (Ext.refl s) rfl)
theorem ev_bool {b : Bool} {k : Nat} {pos : Pos} : Ev w φ X K ρ (.Constant (.bool b) k pos) (.bool b) := by
  intro env A s Q E hP hA hE I H k
  exact fun _ _ _ => k _ _ I (Ext.refl s) rfl
theorem ev_str {b : Str} {k : Nat} {pos : Pos} : Ev w φ X K ρ (.Constant (.str b) k pos) (.str b) := by
  intro env A s Q E hP hA hE I H k
  exact Calls.Constant_str (k _ _ (inv_tok I _) (ext_tok s _) ⟨_, rfl⟩)
/-- an operation of two -/
def Op2 (w : World) (X : Av) (op : Operator) (a b v : V) : Prop :=
  ∀ (A : Around) (s : Shared) (x y : Value) (Q : Value → Shared → Prop) (E : Value → Shared → Prop), AOk A → Inv w X s → Rep X s.heap a x → Rep X s.heap b y →
    (∀ u s', Inv w X s' → Ext s s' → Rep X s'.heap v u → Q u s') → wpAny (model prg w) A (binaryOp op x y) Q E s
theorem ev_bin {l r : Expr} {op : Operator} {pos : Pos} {a b v : V} (h1 : Ev w φ X K ρ l a) (h2 : Ev w φ X K ρ r b) (h : Op2 w X op a b v) : Ev w φ X K ρ (.BinOp l op r pos) v := by
  intro env A s Q E hP hA hE I H k
  refine wpAny_BinOp (h1 env A s _ E hP hA hE I H fun x s1 I1 X1 r1 => h2 env A s1 _ E hP hA hE I1 (H.up X1) fun y s2 I2 X2 r2 => ?_)
  exact h A s2 x y Q E hA I2 (Rep.up X2.lists _ _ r1) r2 fun u s3 I3 X3 r3 => k u s3 I3 ((X1.trans X2).trans X3) r3
theorem op_add {a b : Int} : Op2 w X .Add (.int a) (.int b) (.int (a + b)) := by
  rintro A s _ _ Q E hA I ⟨t, rfl⟩ ⟨u, rfl⟩ k
  exact PySem.P.add_int (k _ _ (inv_tok I _) (ext_tok s _) ⟨_, rfl⟩)
theorem op_sub {a b : Int} : Op2 w X .Sub (.int a) (.int b) (.int (a - b)) := by
  rintro A s _ _ Q E hA I ⟨t, rfl⟩ ⟨u, rfl⟩ k
  exact PySem.P.sub_int (k _ _ (inv_tok I _) (ext_tok s _) ⟨_, rfl⟩)
end Vl
end
section
open PySem PySem.W PySem.W.X PyProof.Rows
set_option Elab.async false
set_option maxRecDepth 100000
set_option maxHeartbeats 1000000
set_option linter.unusedVariables false
namespace Vl
open Mine
variable {w : World} {X : Av} {φ : Around → Prop} {K : List (Str × NameKind)} {ρ : List (Str × V)}
theorem op_mul {a b : Int} (h : IntMulOk a b) : Op2 w X .Mult (.int a) (.int b) (.int (a * b)) := by
  rintro A s _ _ Q E hA I ⟨t, rfl⟩ ⟨u, rfl⟩ k
  exact PySem.P.mul_int (k _ _ (inv_tok I _) (ext_tok s _) ⟨_, rfl⟩) h
theorem op_mod {a b : Int} (h : b ≠ 0) : Op2 w X .Mod (.int a) (.int b) (.int (a.fmod b)) := by
  rintro A s _ _ Q E hA I ⟨t, rfl⟩ ⟨u, rfl⟩ k
  exact mod_int h (k _ _ (inv_tok I _) (ext_tok s _) ⟨_, rfl⟩)
theorem op_div {a b : Int} (h : b ≠ 0) (h2 : b.natAbs < 1073741824) : Op2 w X .FloorDiv (.int a) (.int b) (.int (a.fdiv b)) := by
  rintro A s _ _ Q E hA I ⟨t, rfl⟩ ⟨u, rfl⟩ k
  exact floordiv_int h (k _ _ (inv_tok I _) (ext_tok s _) ⟨_, rfl⟩) (.inl (PyProof.noPylong_small h2))
theorem op_pow {n : Nat} (h0 : 0 < n) (h1 : n ≤ 100) : Op2 w X .Pow (.int 2) (.int n) (.int ((2 ^ n : Nat) : Int)) := by
  rintro A s _ _ Q E hA I ⟨t, rfl⟩ ⟨u, rfl⟩ k
  have hb : Builtin.Int.intBits 2 = 2 := by decide +kernel
  have hbig : ¬ Builtin.Int.intTooBig (((Builtin.Int.intBits 2 : Nat) : Int) * (n : Int)) = true := by
    rw [hb]
    unfold Builtin.Int.intTooBig bitsLine
    simp only [decide_eq_true_eq]
    omega
  refine PySem.AutoIntOps.pow_4 (by omega) (by simp; omega) (by decide) (by decide) hbig ?_
  have e : (2 : Int) ^ ((n : Int)).toNat = ((2 ^ n : Nat) : Int) := by rw [Int.toNat_natCast]; push_cast; rfl
  rw [e]
  exact k _ _ (inv_tok I _) (ext_tok s _) ⟨_, rfl⟩
theorem op_cat {xs ys : List V} (h1 : xs.length ≤ 1000) (h2 : ys.length ≤ 1000) : Op2 w X .Add (.list xs) (.list ys) (.list (xs ++ ys)) := by
  rintro A s _ _ Q E hA I ⟨a, vs, n, rfl, a9, ax, ga, ra⟩ ⟨b, us, m, rfl, b9, bx, gb, rb⟩ k
  have l1 : vs.size = xs.length := by rw [← ra.len]; simp
  have l2 : us.size = ys.length := by rw [← rb.len]; simp
  rw [lst_is] at ga gb
  refine concat_meets ⟨_, ga, rfl⟩ ⟨_, gb, rfl⟩ noFill_list_add seq_list_add PySem.F.slot_list_add PySem.F.entry_list_add (PySem.F.args_list_add_2 _ _) (list_addW a b vs us n m none none #[] #[] (by unfold sizeLine; omega)) ⟨ga, gb, ?_⟩
  have Xp := ext_push s { cls := .type "list", data := .seq (vs ++ us) } s.toks
  refine k _ _ (inv_push I _ _) Xp ⟨_, _, 0, rfl, I.high, I.new, by rw [lst_is]; exact Heap.get?_push_size _ rfl, ?_⟩
  rw [Array.toList_append]
  exact (RepL.up Xp.lists _ _ ra).app (RepL.up Xp.lists _ _ rb)
theorem rep_gen {A : Around} {s : Shared} {Q : Value → Shared → Prop} {E : Value → Shared → Prop} {l : Addr} {items : Array Value} {m : Nat} {x : Int} {u : Tok} (hl : s.heap.get? l = some (lst items m)) (h1 : items.size ≤ 1) (h2 : 0 ≤ x) (h3 : x ≤ 100)
    (hR : Q (.ref s.heap.objs.size) { s with heap := s.heap.push (lst (List.foldl (fun x1 x2 => x1 ++ x2) #[] (List.replicate (if items.isEmpty = true then 0 else x.toNat) items)) 0) }) :
    wpAny (model prg w) A (binaryOp .Mult (.ref l) (.int x u)) Q E s := by
  rw [lst_is] at hl hR
  have gs : items.size * x.toNat ≤ 100 := Nat.le_trans (Nat.mul_le_mul h1 (show x.toNat ≤ 100 by omega)) (by omega)
  exact wpAny_binaryOp_repeat_ref (T := "list") (U := "int") (by decide) ⟨_, hl, rfl⟩ (fun s' => typeIs_int s' x u) noFill_list_mul F.fills_int_mul F.slot_int_rmul repeat_list F.slot_int_index.lookup
    (call_meets F.slot_int_rmul (typeIs_int s x u) F.entry_int_rmul (F.args_int_rmul_2 _ _) (int___rmul___int_list x u l items m)
      ⟨hl, rfl, ⟨_, hl, rfl⟩, call_meets F.slot_list_mul ⟨_, hl, rfl⟩ F.entry_list_mul (F.args_list_mul_2 _ _)
        (AutoListH.list___mul___list_int_3 l items m x u (by simp [Builtin.List.listFitsIndex]; omega) (by omega) (by simp [Builtin.List.listTooLong, sizeLine]; omega)) ⟨hl, hR⟩⟩)
theorem rep_of {h : Heap} {v : Int} : ∀ (n : Nat) (L : List Value), IntsAre L (List.replicate n v) → RepL X h (List.replicate n (.int v)) L
  | 0, _, r => by cases r; rfl
  | n + 1, _, r => by rw [List.replicate_succ] at r ⊢; cases r with | cons _ t q => exact ⟨_, _, rfl, ⟨t, rfl⟩, rep_of n _ q⟩
theorem op_rep {v : Int} {n : Nat} (h : n ≤ 100) : Op2 w X .Mult (.list [.int v]) (.int n) (.list (List.replicate n (.int v))) := by
  rintro A s _ _ Q E hA I ⟨a, vs, m, rfl, a9, ax, ga, ra⟩ ⟨u, rfl⟩ k
  obtain ⟨x, r, e, ⟨t, rfl⟩, rfl⟩ := ra
  have ev : vs = #[.int v t] := by apply Array.ext'; rw [e]
  refine rep_gen ga (by rw [ev]; exact Nat.le_refl _) (by omega) (by omega) ?_
  rw [ev]
  refine k _ _ (inv_push I _ s.toks) (ext_push s _ s.toks) ⟨_, _, 0, rfl, I.high, I.new, Heap.get?_push_size _ rfl, ?_⟩
  exact rep_of n _ (ints_rep v t n)
/-- a comparison of two -/
def Cmp2 (w : World) (X : Av) (op : CmpOp) (a b : V) (c : Bool) : Prop :=
  ∀ (A : Around) (s : Shared) (x y : Value) (Q : Value → Shared → Prop) (E : Value → Shared → Prop), AOk A → Inv w X s → Rep X s.heap a x → Rep X s.heap b y →
    (∀ s', Inv w X s' → Ext s s' → Q (.bool c) s') → wpAny (model prg w) A (compareOp op x y) Q E s
theorem cmp_lt {a b : Int} : Cmp2 w X .Lt (.int a) (.int b) (decide (a < b)) := by
  rintro A s _ _ Q E hA I ⟨t, rfl⟩ ⟨u, rfl⟩ k
  exact PySem.P.lt_int (k _ I (Ext.refl s))
theorem cmp_le {a b : Int} : Cmp2 w X .LtE (.int a) (.int b) (decide (a ≤ b)) := by
  rintro A s _ _ Q E hA I ⟨t, rfl⟩ ⟨u, rfl⟩ k
  exact PySem.P.le_int (k _ I (Ext.refl s))
theorem cmp_gt {a b : Int} : Cmp2 w X .Gt (.int a) (.int b) (decide (a > b)) := by
  rintro A s _ _ Q E hA I ⟨t, rfl⟩ ⟨u, rfl⟩ k
  exact PySem.P.gt_int (k _ I (Ext.refl s))
theorem cmp_ge {a b : Int} : Cmp2 w X .GtE (.int a) (.int b) (decide (a ≥ b)) := by
  rintro A s _ _ Q E hA I ⟨t, rfl⟩ ⟨u, rfl⟩ k
  exact PySem.P.ge_int (k _ I (Ext.refl s))
theorem cmp_eq {a b : Int} : Cmp2 w X .Eq (.int a) (.int b) (a == b) := by
  rintro A s _ _ Q E hA I ⟨t, rfl⟩ ⟨u, rfl⟩ k
  exact PySem.P.eq_int (k _ I (Ext.refl s))
theorem cmp_ne {a b : Int} : Cmp2 w X .NotEq (.int a) (.int b) (a != b) := by
  rintro A s _ _ Q E hA I ⟨t, rfl⟩ ⟨u, rfl⟩ k
  exact PySem.P.ne_int (k _ I (Ext.refl s))
mutual
def V.py : V → PyData
  | .none => .none
  | .bool b => .bool b
  | .int i => .int i
  | .str x => .str x
  | .typ _ => .none
  | .own _ => .none
  | .val _ => .none
  | .list l => .list (pyL l)
def pyL : List V → List PyData
  | [] => []
  | x :: l => x.py :: pyL l
end
mutual
/-- plain through and through, at most so deep -/
def V.fine : V → Nat → Prop
  | .typ _, _ => False
  | .own _, _ => False
  | .val _, _ => False
  | .str x, n => PyData.strOk x = true
  | .list l, n => match n with
    | 0 => False
    | n + 1 => fineL l n
  | _, _ => True
def fineL : List V → Nat → Prop
  | [], _ => True
  | x :: l, n => x.fine n ∧ fineL l n
end
mutual
theorem Rep.reads {h : Heap} : ∀ (x : V) (n : Nat) (v : Value), x.fine n → Rep X h x v → ∃ as, Reads h v x.py as
  | .none, _, _, _, r => by rw [r]; exact ⟨_, .none⟩
  | .bool b, _, _, _, r => by rw [r]; exact ⟨_, .bool b⟩
  | .int i, _, _, _, ⟨t, r⟩ => by rw [r]; exact ⟨_, .int i t⟩
  | .str x, _, _, _, ⟨t, r⟩ => by rw [r]; exact ⟨_, .str x t⟩
  | .typ _, _, _, f, _ => f.elim
  | .own _, _, _, f, _ => f.elim
  | .val _, _, _, f, _ => f.elim
  | .list l, 0, _, f, _ => f.elim
  | .list l, n + 1, _, f, ⟨a, vs, m, e, _, _, g, r⟩ => by
    obtain ⟨as, q⟩ := RepL.reads l n _ f r
    rw [lst_is] at g
    rw [e]; exact ⟨_, .list g rfl rfl q⟩
theorem RepL.reads {h : Heap} : ∀ (l : List V) (n : Nat) (vs : List Value), fineL l n → RepL X h l vs → ∃ as, ReadsAll h vs (pyL l) as
  | [], _, _, _, r => by rw [r]; exact ⟨_, .nil⟩
  | x :: l, n, _, f, ⟨v, r, e, p, q⟩ => by
    obtain ⟨as, z⟩ := Rep.reads x n v f.1 p
    obtain ⟨bs, y⟩ := RepL.reads l n r f.2 q
    rw [e]; exact ⟨_, .cons z y⟩
end
mutual
theorem V.fine.lay : ∀ (x : V) (n : Nat), x.fine n → x.py.canLay0 = true
  | .none, _, _ => rfl
  | .bool b, _, _ => rfl
  | .int i, _, _ => rfl
  | .str x, _, f => by simpa [V.fine, V.py, PyData.canLay0] using f
  | .typ _, _, f => f.elim
  | .own _, _, f => f.elim
  | .val _, _, f => f.elim
  | .list l, 0, f => f.elim
  | .list l, n + 1, f => fineL.lay l n f
theorem fineL.lay : ∀ (l : List V) (n : Nat), fineL l n → PyData.canLayAll0 (pyL l) = true
  | [], _, _ => rfl
  | x :: l, n, f => by
    show (PyData.canLay0 x.py && PyData.canLayAll0 (pyL l)) = true
    rw [V.fine.lay x n f.1, fineL.lay l n f.2]; rfl
end
mutual
theorem V.fine.dep : ∀ (x : V) (n : Nat), x.fine n → x.py.depth ≤ n + 1
  | .none, _, _ => by simp [V.py, PyData.depth]
  | .bool b, _, _ => by simp [V.py, PyData.depth]
  | .int i, _, _ => by simp [V.py, PyData.depth]
  | .str x, _, f => by simp [V.py, PyData.depth]
  | .typ _, _, f => f.elim
  | .own _, _, f => f.elim
  | .val _, _, f => f.elim
  | .list l, 0, f => f.elim
  | .list l, n + 1, f => by
    have := fineL.dep l n f
    simp only [V.py, PyData.depth]; omega
theorem fineL.dep : ∀ (l : List V) (n : Nat), fineL l n → PyData.depthAll (pyL l) ≤ n + 1
  | [], _, _ => by simp [pyL, PyData.depthAll]
  | x :: l, n, f => by
    have h1 := V.fine.dep x n f.1
    have h2 := fineL.dep l n f.2
    simp only [pyL, PyData.depthAll]; omega
end
theorem V.fine.shaped {x : V} {n : Nat} (f : x.fine n) (h : n ≤ 60) : PySem.SeqAt.shaped x.py = true := by
  unfold PySem.SeqAt.shaped
  rw [V.fine.lay x n f, decide_eq_true (by have := V.fine.dep x n f; omega)]; rfl
theorem cmp_same {a : V} {n : Nat} (f : a.fine n) (hn : n ≤ 60) : Cmp2 w X .Eq a a true := by
  intro A s x y Q E hA I ra rb k
  obtain ⟨as, ra⟩ := Rep.reads a n x f ra
  obtain ⟨bs, rb⟩ := Rep.reads a n y f rb
  refine eq_dataH ra rb (f.shaped hn) (f.shaped hn) (by have := hA.un; unfold cLine; omega) ?_
  rw [PySem.SeqAt.eqv_refl _ (V.fine.lay a n f)]; exact k s I (Ext.refl s)
theorem cmp_notSame {a : V} {n : Nat} (f : a.fine n) (hn : n ≤ 60) : Cmp2 w X .NotEq a a false := by
  intro A s x y Q E hA I ra rb k
  obtain ⟨as, ra⟩ := Rep.reads a n x f ra
  obtain ⟨bs, rb⟩ := Rep.reads a n y f rb
  refine ne_dataH ra rb (f.shaped hn) (f.shaped hn) (by have := hA.un; unfold cLine; omega) ?_
  rw [PySem.SeqAt.eqv_refl _ (V.fine.lay a n f)]; exact k s I (Ext.refl s)
def Is (l : List Int) : List V := l.map .int
theorem RepL.are {h : Heap} : ∀ {l : List Int} {vs : List Value}, RepL X h (Is l) vs → IntsAre vs l
  | [], _, r => by rw [r]; exact .nil
  | x :: l, vs, r => by
    obtain ⟨v, r, e, z, q⟩ := r
    obtain ⟨t, z⟩ := z
    rw [e, z]; exact .cons _ t (RepL.are q)
theorem contains_wp {A : Around} {s : Shared} {E : Value → Shared → Prop} {Q : Bool → Shared → Prop} {l : Addr} {vs : Array Value} {n : Nat} {ks : List Int} (hA : AOk A) (g : s.heap.get? l = some (lst vs n)) (hi : IntsAre vs.toList ks) (x : Int) (t : Nat)
    (k : ∀ s', (∀ b o, s.heap.get? b = some o → s'.heap.get? b = some o) → Same s s' → Q (decide (x ∈ ks)) s') : wpAny (model prg w) A (contains (.ref l) (.int x t)) Q E s := by
  have hT : s.TypeIs (.ref l) "list" := (isList_of g).typeIs
  refine wpAny_contains_slot hT F.slot_list_contains (wpAny_call (codeAny_mono (weaken (contains_call w s 600 3000 l vs n ks g hi x t) hA.hd (Nat.ble_eq_true_of_le hA.dp) rfl rfl (Nat.ble_eq_true_of_le hA.un)) fun r s' h => ?_))
  obtain ⟨rfl, kp, sm⟩ := h
  exact wpAny_truthy_bool (k s' (fun b o e => kp b o e List.not_mem_nil) sm)
theorem cmp_in {x : Int} {ks : List Int} : Cmp2 w X .In (.int x) (.list (Is ks)) (decide (x ∈ ks)) := by
  rintro A s _ _ Q E hA I ⟨t, rfl⟩ ⟨a, vs, n, rfl, a9, ax, g, r⟩ k
  show wpAny _ A (do return .bool (← contains (.ref a) (.int x t))) Q E s
  exact wpAny_bind (contains_wp hA g r.are x t fun s' kp sm => wpAny_pure (k s' (I.of kp) (Ext.of kp sm)))
theorem cmp_notIn {x : Int} {ks : List Int} : Cmp2 w X .NotIn (.int x) (.list (Is ks)) (!decide (x ∈ ks)) := by
  rintro A s _ _ Q E hA I ⟨t, rfl⟩ ⟨a, vs, n, rfl, a9, ax, g, r⟩ k
  show wpAny _ A (do return .bool (!(← contains (.ref a) (.int x t)))) Q E s
  exact wpAny_bind (contains_wp hA g r.are x t fun s' kp sm => wpAny_pure (k s' (I.of kp) (Ext.of kp sm)))
theorem cmp_isNone {a : V} {b : Bool} (h : b = match a with | .none => true | .val x => x == .none | _ => false) : Cmp2 w X .Is a .none b := by
  rintro A s x _ Q E hA I r rfl k
  refine is_none ?_
  have : (x == Value.none) = b := by
    cases a with
    | none => rw [show x = .none from r, h]; rfl
    | bool _ => rw [show x = .bool _ from r, h]; rfl
    | int _ => obtain ⟨t, r⟩ := r; rw [r, h]; rfl
    | str _ => obtain ⟨t, r⟩ := r; rw [r, h]; rfl
    | typ _ => rw [show x = .type _ from r, h]; rfl
    | val _ => rw [show x = _ from r, h]
    | own _ => obtain ⟨_, _, _, _, r, _⟩ := r; rw [r, h]; rfl
    | list _ => obtain ⟨_, _, _, r, _, _⟩ := r; rw [r, h]; rfl
  rw [this]; exact k s I (Ext.refl s)
theorem cmp_isNotTyp {n : String} : Cmp2 w X .IsNot (.typ n) (.typ n) false := by
  rintro A s _ _ Q E hA I rfl rfl k
  refine wpAny_isNot_self rfl ?_
  exact k s I (Ext.refl s)
end Vl
end
section
open PySem PySem.W PySem.W.X PyProof.Rows
set_option Elab.async false
set_option maxRecDepth 100000
set_option maxHeartbeats 1000000
set_option linter.unusedVariables false
namespace Vl
open Mine
variable {w : World} {X : Av} {φ : Around → Prop} {K : List (Str × NameKind)} {ρ : List (Str × V)}
/-- the operations of one -/
theorem ev_neg {e : Expr} {pos : Pos} {a : Int} (h : Ev w φ X K ρ e (.int a)) : Ev w φ X K ρ (.UnaryOp .USub e pos) (.int (-a)) := by
  intro env A s Q E hP hA hE I H k
  refine wpAny_UnaryOp (h env A s _ E hP hA hE I H fun x s1 I1 X1 r1 => ?_)
  obtain ⟨t, rfl⟩ := r1
  exact PySem.P.neg_int (k _ _ (inv_tok I1 _) (X1.trans (ext_tok s1 _)) ⟨_, rfl⟩)
theorem ev_cmp {l r : Expr} {op : CmpOp} {pos : Pos} {a b : V} {c : Bool} (h1 : Ev w φ X K ρ l a) (h2 : Ev w φ X K ρ r b) (h : Cmp2 w X op a b c) (hm : behindInMarks op r = false) : Ev w φ X K ρ (.Compare l [op] [r] pos) (.bool c) := by
  intro env A s Q E hP hA hE I H k
  refine wpAny_Compare1 (h1 env A s _ E hP hA hE I H fun x s1 I1 X1 r1 => h2 env A s1 _ E hP hA hE I1 (H.up X1) fun y s2 I2 X2 r2 => ?_) hm
  exact h A s2 x y Q E hA I2 (Rep.up X2.lists _ _ r1) r2 fun s3 I3 X3 => k _ s3 I3 ((X1.trans X2).trans X3) rfl
theorem tr_cmp {l r : Expr} {op : CmpOp} {pos : Pos} {a b : V} {c : Bool} (h1 : Ev w φ X K ρ l a) (h2 : Ev w φ X K ρ r b) (h : Cmp2 w X op a b c) (hm : behindInMarks op r = false) : Tr w φ X K ρ (.Compare l [op] [r] pos) c := by
  intro env A s Q E hP hA hE I H k
  refine wpAny_isTrue_Compare1 (h1 env A s _ E hP hA hE I H fun x s1 I1 X1 r1 => h2 env A s1 _ E hP hA hE I1 (H.up X1) fun y s2 I2 X2 r2 => ?_) hm
  exact h A s2 x y _ E hA I2 (Rep.up X2.lists _ _ r1) r2 fun s3 I3 X3 => wpAny_truthy_bool (k s3 I3 ((X1.trans X2).trans X3))
/-- a chain of two comparisons, both decided (the second asked only behind a true first) -/
theorem tr_chain {l r r' : Expr} {op op' : CmpOp} {pos : Pos} {a b b' : V} {c c' : Bool} (h1 : Ev w φ X K ρ l a) (h2 : Ev w φ X K ρ r b) (h : Cmp2 w X op a b c) (h3 : c = true → Ev w φ X K ρ r' b') (h' : Cmp2 w X op' b b' c')
    (hm : lastMarks [op, op'] [r, r'] = false) : Tr w φ X K ρ (.Compare l [op, op'] [r, r'] pos) (c && c') := by
  intro env A s Q E hP hA hE I H k
  refine isTrue_chain (ops := []) (rs := []) (h1 env A s _ E hP hA hE I H fun x s1 I1 X1 r1 => ?_) hm
  refine test_link (h2 env A s1 _ E hP hA hE I1 (H.up X1) fun y s2 I2 X2 r2 => h A s2 x y _ E hA I2 (Rep.up X2.lists _ _ r1) r2 fun s3 I3 X3 => wpAny_truthy_bool ?_)
  cases c with
  | false => exact k s3 I3 ((X1.trans X2).trans X3)
  | true =>
    refine test_last (h3 rfl env A s3 _ E hP hA hE I3 (H.up ((X1.trans X2).trans X3)) fun z s4 I4 X4 r4 => ?_)
    exact h' A s4 y z _ E hA I4 (Rep.up (X3.trans X4).lists _ _ r2) r4 fun s5 I5 X5 => wpAny_truthy_bool (k s5 I5 ((((X1.trans X2).trans X3).trans X4).trans X5))
theorem tr_not {e : Expr} {pos : Pos} {c : Bool} (h : Tr w φ X K ρ e c) : Tr w φ X K ρ (.UnaryOp .Not e pos) (!c) := by
  intro env A s Q E hP hA hE I H k
  exact wpAny_isTrue_Not (h env A s _ E hP hA hE I H fun s1 I1 X1 => k s1 I1 X1)
theorem tr_val {e : Expr} {c : Bool} (h : Ev w φ X K ρ e (.bool c)) (he : ∀ env whole, isTrue e env whole = (do let v ← whole; standAt e.pos; holding [v] (truthy v))) : Tr w φ X K ρ e c := by
  intro env A s Q E hP hA hE I H k
  refine wpAny_isTrue_value (h env A s _ E hP hA hE I H fun x s1 I1 X1 r1 => ?_) (he env _)
  rw [show x = .bool c from r1]
  exact wpAny_truthy_bool (k s1 I1 X1)
def TrA (w : World) (φ : Around → Prop) (X : Av) (K : List (Str × NameKind)) (ρ : List (Str × V)) (op : BoolOp) (es : List Expr) (c : Bool) : Prop :=
  ∀ (env : Env) (A : Around) (s : Shared) (Q : Bool → Shared → Prop) (E : Value → Shared → Prop), φ A → AOk A → EnvIs K env → Inv w X s → Has X env s.heap ρ →
    (∀ s', Inv w X s' → Ext s s' → Q c s') → wpAny (model prg w) A (allTrue op es env) Q E s
theorem tra_and0 : TrA w φ X K ρ .And [] true := fun env A s Q E hP hA hE I H k => wpAny_allTrue_And_nil (k s I (Ext.refl s))
theorem tra_or0 : TrA w φ X K ρ .Or [] false := fun env A s Q E hP hA hE I H k => wpAny_allTrue_Or_nil (k s I (Ext.refl s))
theorem tra_and {e : Expr} {es : List Expr} {c d : Bool} (h : Tr w φ X K ρ e c) (h' : c = true → TrA w φ X K ρ .And es d) : TrA w φ X K ρ .And (e :: es) (c && d) := by
  intro env A s Q E hP hA hE I H k
  refine wpAny_allTrue_And_cons (h env A s _ E hP hA hE I H fun s1 I1 X1 => ?_)
  cases c with
  | false => exact k s1 I1 X1
  | true => exact h' rfl env A s1 Q E hP hA hE I1 (H.up X1) fun s2 I2 X2 => k s2 I2 (X1.trans X2)
theorem tra_or {e : Expr} {es : List Expr} {c d : Bool} (h : Tr w φ X K ρ e c) (h' : c = false → TrA w φ X K ρ .Or es d) : TrA w φ X K ρ .Or (e :: es) (c || d) := by
  intro env A s Q E hP hA hE I H k
  refine wpAny_allTrue_Or_cons (h env A s _ E hP hA hE I H fun s1 I1 X1 => ?_)
  cases c with
  | true => exact k s1 I1 X1
  | false => exact h' rfl env A s1 Q E hP hA hE I1 (H.up X1) fun s2 I2 X2 => k s2 I2 (X1.trans X2)
theorem tr_bool {op : BoolOp} {es : List Expr} {pos : Pos} {c : Bool} (h : TrA w φ X K ρ op es c) : Tr w φ X K ρ (.BoolOp op es pos) c := by
  intro env A s Q E hP hA hE I H k
  exact wpAny_isTrue_BoolOp (h env A s Q E hP hA hE I H k)
theorem ev_and {x y : Expr} {pos : Pos} {c d : Bool} (h : Ev w φ X K ρ x (.bool c)) (h' : c = true → Ev w φ X K ρ y (.bool d)) : Ev w φ X K ρ (.BoolOp .And [x, y] pos) (.bool (c && d)) := by
  intro env A s Q E hP hA hE I H k
  refine wpAny_And2 (h env A s _ E hP hA hE I H fun u s1 I1 X1 r1 => ?_)
  rw [show u = .bool c from r1]
  refine wpAny_truthy_bool ?_
  cases c with
  | false => exact k _ s1 I1 X1 rfl
  | true => exact h' rfl env A s1 Q E hP hA hE I1 (H.up X1) fun v s2 I2 X2 r2 => k v s2 I2 (X1.trans X2) r2
theorem ev_ifInt {t x y : Expr} {pos : Pos} {c : Bool} {a b : Int} (h : Tr w φ X K ρ t c) (h1 : c = true → Ev w φ X K ρ x (.int a)) (h2 : c = false → Ev w φ X K ρ y (.int b)) : Ev w φ X K ρ (.IfExp t x y pos) (.int (if c = true then a else b)) := by
  intro env A s Q E hP hA hE I H k
  refine wpAny_IfExp (h env A s _ E hP hA hE I H fun s1 I1 X1 => ?_)
  cases c with
  | true => exact h1 rfl env A s1 Q E hP hA hE I1 (H.up X1) fun v s2 I2 X2 r2 => k v s2 I2 (X1.trans X2) r2
  | false => exact h2 rfl env A s1 Q E hP hA hE I1 (H.up X1) fun v s2 I2 X2 r2 => k v s2 I2 (X1.trans X2) r2
theorem ev_if {t x y : Expr} {pos : Pos} {c : Bool} {v : V} (h : Tr w φ X K ρ t c) (h1 : c = true → Ev w φ X K ρ x v) (h2 : c = false → Ev w φ X K ρ y v) : Ev w φ X K ρ (.IfExp t x y pos) v := by
  intro env A s Q E hP hA hE I H k
  refine wpAny_IfExp (h env A s _ E hP hA hE I H fun s1 I1 X1 => ?_)
  cases c with
  | true => exact h1 rfl env A s1 Q E hP hA hE I1 (H.up X1) fun v s2 I2 X2 r2 => k v s2 I2 (X1.trans X2) r2
  | false => exact h2 rfl env A s1 Q E hP hA hE I1 (H.up X1) fun v s2 I2 X2 r2 => k v s2 I2 (X1.trans X2) r2
/-- lists of expressions -/
theorem evl_nil : EvL w φ X K ρ [] [] := fun env A pos s Q E hP hA hE I H k => spliced_none (k _ s I (Ext.refl s) rfl)
theorem evl_cons {e : Expr} {es : List Expr} {v : V} {vs : List V} (h : Ev w φ X K ρ e v) (h' : EvL w φ X K ρ es vs) (he : ∀ env, starEach (e :: es) env = (false, eval e env) :: starEach es env) : EvL w φ X K ρ (e :: es) (v :: vs) := by
  intro env A pos s Q E hP hA hE I H k
  refine spliced_more (h env A s _ E hP hA hE I H fun u s1 I1 X1 r1 => h' env A pos s1 _ E hP hA hE I1 (H.up X1) fun us s2 I2 X2 r2 => ?_) (he env)
  exact k _ s2 I2 (X1.trans X2) ⟨u, us, rfl, Rep.up X2.lists _ _ r1, r2⟩
theorem ev_list {es : List Expr} {pos : Pos} {vs : List V} (h : EvL w φ X K ρ es vs) (hb : vs.length ≤ 1000) : Ev w φ X K ρ (.List es pos) (.list vs) := by
  intro env A s Q E hP hA hE I H k
  refine wpAny_List (h env A pos s _ E hP hA hE I H fun us s1 I1 X1 r1 => ?_)
  refine ⟨by rw [r1.len]; unfold sizeLine; omega, ?_⟩
  have Xp := ext_push s1 { cls := .type "list", data := .seq us.toArray } s1.toks
  refine k _ _ (inv_push I1 _ s1.toks) (X1.trans Xp) ⟨_, us.toArray, 0, rfl, I1.high, I1.new, by rw [lst_is]; exact Heap.get?_push_size _ rfl, ?_⟩
  exact RepL.up Xp.lists _ _ r1
/-- an item of a list -/
theorem ev_item {e i : Expr} {pos : Pos} {xs : List V} {j : Int} {v : V} (h : Ev w φ X K ρ e (.list xs)) (h' : Ev w φ X K ρ i (.int j)) (h0 : 0 ≤ j) (hn : j < 2 ^ 60) (hv : xs[j.toNat]? = some v)
    (hs : ∀ a t, subscripted i false (.ref a) (.int j t) = operate [.ref a, .int j t] (getItem (.ref a) (.int j t))) : Ev w φ X K ρ (.Subscript e i pos) v := by
  intro env A s Q E hP hA hE I H k
  refine Subscript_ (h env A s _ E hP hA hE I H fun u s1 I1 X1 r1 => h' env A s1 _ E hP hA hE I1 (H.up X1) fun y s2 I2 X2 r2 => ?_)
  obtain ⟨a, vs, m, rfl, a9, ax, g, r⟩ := Rep.up X2.lists _ _ r1
  obtain ⟨t, rfl⟩ := r2
  obtain ⟨z, ez, rz⟩ := r.at j.toNat v hv
  exact tail_any (isList_of g).typeIs slot_list_getitem.lookup (wpAny_getItem_list (isList_of g) h0 (by omega) (by simpa using ez) (k z s2 I2 (X1.trans X2) rz)) (hs a t)
/-- names of the text's top and built-in ones -/
noncomputable def gObj (w : World) : Obj := match (kt w.params).get mainGlobals with | some o => o | none => lst #[] 0
noncomputable def bObj (w : World) : Obj := match (kt w.params).get builtinsNs with | some o => o | none => lst #[] 0
def nsOf (o : Obj) (x : Str) : Option Value := match o.data with | .dict es _ => nsFind es x | _ => none
def strOnly (o : Obj) : Bool := match o.data with
  | .dict es _ => es.toList.all fun e => (match e.key with | .str .. => true | _ => false)
  | _ => false
theorem nsOf_ns {h : Heap} {a : Addr} {o : Obj} (e : h.get? a = some o) (ok : strOnly o = true) : h.Ns a (nsOf o) := by
  unfold strOnly at ok
  cases hd : o.data with
  | dict es ep =>
    rw [hd] at ok
    refine ⟨o, es, ep, e, hd, fun x hx => ?_, fun name => by unfold nsOf; rw [hd]⟩
    have := List.all_eq_true.mp ok x (Array.mem_toList_iff.mpr hx)
    cases hk : x.key with
    | str n t => exact ⟨n, t, rfl⟩
    | _ => rw [hk] at this; simp at this
  | _ => rw [hd] at ok; simp at ok
theorem g_ok (w : World) : (kt w.params).get mainGlobals = some (gObj w) ∧ strOnly (gObj w) = true := ⟨rfl, rfl⟩
theorem b_ok (w : World) : (kt w.params).get builtinsNs = some (bObj w) ∧ strOnly (bObj w) = true := ⟨rfl, rfl⟩
theorem g_ns {h : Heap} (X : KtIn (kt w.params) h) : h.Ns mainGlobals (nsOf (gObj w)) := nsOf_ns (X _ _ (g_ok w).1) (g_ok w).2
theorem b_ns {h : Heap} (X : KtIn (kt w.params) h) : h.Ns builtinsNs (nsOf (bObj w)) := nsOf_ns (X _ _ (b_ok w).1) (b_ok w).2
/-- a global name's value -/
def Glb (w : World) (x : Str) (v : Value) : Prop := nsOf (gObj w) x = some v ∨ (nsOf (gObj w) x = none ∧ nsOf (bObj w) x = some v)
theorem glob_wp {x : Str} {pos : Pos} {v : Value} {env : Env} {A : Around} {s : Shared} {Q : Value → Shared → Prop} {E : Value → Shared → Prop} (hE : EnvIs K env) (I : Inv w X s) (hk : K.lookup x = some .globalImplicit) (hd : (x == ("__debug__" : Str)) = false) (g : Glb w x v) (k : Q v s) :
    wpAny (model prg w) A (eval (.Name x pos) env) Q E s := by
  refine Calls.Name_function_global hE.kind ((hE.k x).trans hk) ?_ hd
  have hg : s.heap.Ns env.globals (nsOf (gObj w)) := by rw [hE.glob]; exact g_ns I.kt
  have hb : s.heap.Ns env.builtins (nsOf (bObj w)) := by rw [hE.blt]; exact b_ns I.kt
  rcases g with g | ⟨g, g'⟩
  · exact Calls.loadGlobal_global hg g k
  · exact Calls.loadGlobal_builtin hg g hb g' k
theorem g_len : Glb w (Str.ofString "len") (.builtin "len") := .inr ⟨by rfl, by rfl⟩
theorem ev_typ {x : Str} {pos : Pos} {n : String} (hk : K.lookup x = some .globalImplicit) (hd : (x == ("__debug__" : Str)) = false) (g : Glb w x (.type n)) : Ev w φ X K ρ (.Name x pos) (.typ n) := by
  intro env A s Q E hP hA hE I H k
  exact glob_wp hE I hk hd g (k _ s I (Ext.refl s) rfl)
/-- what a call gives -/
def Does (w : World) (φ : Around → Prop) (X : Av) (f : Value) (vs : List V) (v : V) : Prop :=
  ∀ (A : Around) (s : Shared) (us : List Value) (Q : Value → Shared → Prop) (E : Value → Shared → Prop), φ A → AOk A → Inv w X s → RepL X s.heap vs us → (∀ u s', Inv w X s' → Ext s s' → Rep X s'.heap v u → Q u s') → wpAny (model prg w) A (call f us) Q E s
theorem plain_back {env : Env} {e : Expr} {es : List Expr} {pos : Pos} (he : ∀ env, starEach (e :: es) env = (false, eval e env) :: starEach es env) : backTo pos (starEach (e :: es) env) = (false, eval e env) :: backTo pos (starEach es env) := by rw [he]; rfl
theorem ev_callB {x : Str} {np pos : Pos} {id : String} {e : Expr} {es : List Expr} {vs : List V} {v : V} (hk : K.lookup x = some .globalImplicit) (hd : (x == ("__debug__" : Str)) = false) (g : Glb w x (.builtin id))
    (he : ∀ env, starEach (e :: es) env = (false, eval e env) :: starEach es env) (hp : ∀ env pos, (backTo pos (starEach (e :: es) env)).any (·.1) = false) (ha : EvL w φ X K ρ (e :: es) vs) (h : Does w φ X (.builtin id) vs v) : Ev w φ X K ρ (.Call (.Name x np) (e :: es) [] pos) v := by
  intro env A s Q E hP hA hE I H k
  refine wpAny_Call_ofName (glob_wp hE I hk hd g ?_)
  refine Calls.callWith_builtin (hp env pos) ?_
  have hA' := ha env A pos s
  rw [plain_back he] at hA' ⊢
  exact Calls.evalArgs_plain (hA' _ E hP hA hE I H fun us s1 I1 X1 r1 => h A s1 us Q E hP hA I1 r1 fun u s2 I2 X2 r2 => k u s2 I2 (X1.trans X2) r2)
theorem ev_callT {x : Str} {np pos : Pos} {id : String} {e : Expr} {es : List Expr} {vs : List V} {v : V} (hk : K.lookup x = some .globalImplicit) (hd : (x == ("__debug__" : Str)) = false) (g : Glb w x (.type id))
    (he : ∀ env, starEach (e :: es) env = (false, eval e env) :: starEach es env) (hp : ∀ env pos, (backTo pos (starEach (e :: es) env)).any (·.1) = false) (ha : EvL w φ X K ρ (e :: es) vs) (h : Does w φ X (.type id) vs v) : Ev w φ X K ρ (.Call (.Name x np) (e :: es) [] pos) v := by
  intro env A s Q E hP hA hE I H k
  refine wpAny_Call_ofName (glob_wp hE I hk hd g ?_)
  refine PySem.callWith_type (hp env pos) ?_
  have hA' := ha env A pos s
  rw [plain_back he] at hA' ⊢
  exact Calls.evalArgs_plain (hA' _ E hP hA hE I H fun us s1 I1 X1 r1 => h A s1 us Q E hP hA I1 r1 fun u s2 I2 X2 r2 => k u s2 I2 (X1.trans X2) r2)
/-- a def of the text's -/
def isFn (o : Obj) : Bool := match o.data with | .func _ => true | _ => false
theorem ev_callF {x : Str} {np pos : Pos} {f : Addr} {o : Obj} {e : Expr} {es : List Expr} {vs : List V} {v : V} (hk : K.lookup x = some .globalImplicit) (hd : (x == ("__debug__" : Str)) = false) (g : Glb w x (.ref f)) (ho : (kt w.params).get f = some o) (hf : isFn o = true)
    (he : ∀ env, starEach (e :: es) env = (false, eval e env) :: starEach es env) (ha : EvL w φ X K ρ (e :: es) vs) (h : Does w φ X (.ref f) vs v) : Ev w φ X K ρ (.Call (.Name x np) (e :: es) [] pos) v := by
  intro env A s Q E hP hA hE I H k
  obtain ⟨fd, hfd⟩ : ∃ fd, o.data = .func fd := by
    unfold isFn at hf
    cases q : o.data with
    | func fd => exact ⟨fd, rfl⟩
    | _ => rw [q] at hf; simp at hf
  refine wpAny_Call_ofName (glob_wp hE I hk hd g ?_)
  refine Calls.callWith_function (o := o) (fd := fd) ?_
  have hA' := ha env A pos s
  rw [plain_back he] at hA' ⊢
  exact Calls.evalArgs_plain (hA' _ E hP hA hE I H fun us s1 I1 X1 r1 => ⟨⟨I1.kt _ _ ho, hfd⟩, h A s1 us Q E hP hA I1 r1 fun u s2 I2 X2 r2 => k u s2 I2 (X1.trans X2) r2⟩)
/-- built-ins -/
theorem one_arg {h : Heap} {a : V} {us : List Value} (r : RepL X h [a] us) : ∃ u, us = [u] ∧ Rep X h a u := by
  obtain ⟨u, r, e, p, rfl⟩ := r
  exact ⟨u, e, p⟩
theorem two_arg {h : Heap} {a b : V} {us : List Value} (r : RepL X h [a, b] us) : ∃ u v, us = [u, v] ∧ Rep X h a u ∧ Rep X h b v := by
  obtain ⟨u, r, e, p, v, r', e', p', rfl⟩ := r
  exact ⟨u, v, by rw [e, e'], p, p'⟩
theorem does_len {xs : List V} (h : xs.length ≤ 1000) : Does w φ X (.builtin "len") [.list xs] (.int xs.length) := by
  intro A s us Q E hP hA I r k
  obtain ⟨u, rfl, a, vs, n, rfl, a9, ax, g, q⟩ := one_arg r
  have l1 : vs.size = xs.length := by rw [← q.len]; simp
  refine PyProof.Rows.len_list (isList_of g) (by omega) ?_
  rw [l1]
  exact k _ _ (inv_tok I _) (ext_tok s _) ⟨_, rfl⟩
theorem does_typeInt {i : Int} : Does w φ X (.type "type") [.int i] (.typ "int") := by
  intro A s us Q E hP hA I r k
  obtain ⟨u, rfl, t, rfl⟩ := one_arg r
  exact call_type_of (typeIs_int s i t) (by decide) (k _ s I (Ext.refl s) rfl)
theorem does_max2 {a b : Int} : Does w φ X (.builtin "max") [.int a, .int b] (.int (max a b)) := by
  intro A s us Q E hP hA I r k
  obtain ⟨u, v, rfl, ⟨t, rfl⟩, ⟨t', rfl⟩⟩ := two_arg r
  refine max_two_ints hA.hd fun h' tk kp => ?_
  have e : (if b > a then Value.int b t' else Value.int a t) = Value.int (max a b) (if b > a then t' else t) := by
    split <;> congr 1 <;> omega
  rw [e]
  exact k _ _ (I.of kp) (Ext.of kp ⟨rfl, rfl⟩) ⟨_, rfl⟩
theorem does_min2 {a b : Int} : Does w φ X (.builtin "min") [.int a, .int b] (.int (min a b)) := by
  intro A s us Q E hP hA I r k
  obtain ⟨u, v, rfl, ⟨t, rfl⟩, ⟨t', rfl⟩⟩ := two_arg r
  refine min_two_ints hA.hd fun h' tk kp => ?_
  have e : (if b < a then Value.int b t' else Value.int a t) = Value.int (min a b) (if b < a then t' else t) := by
    split <;> congr 1 <;> omega
  rw [e]
  exact k _ _ (I.of kp) (Ext.of kp ⟨rfl, rfl⟩) ⟨_, rfl⟩
theorem does_sum {ks : List Int} : Does w φ X (.builtin "sum") [.list (Is ks)] (.int ks.sum) := by
  intro A s us Q E hP hA I r k
  obtain ⟨u, rfl, a, vs, n, rfl, a9, ax, g, q⟩ := one_arg r
  have hi := q.are
  obtain ⟨xs, e⟩ := hi.allInts.items
  have e' : vs = intItems xs := by rw [← e]
  have hns : ks = xs.toList.map (·.1) := by rw [← hi.numsOf, ← nums_intItems, ← e]
  subst e'
  refine sum_intListG hA.hd (isList_of g) fun h' tk t' kp => ?_
  rw [preSum_eq, List.take_of_length_le (by simp), ← hns]
  exact k _ _ (I.of kp) (Ext.of kp ⟨rfl, rfl⟩) ⟨_, rfl⟩
theorem does_max {ks : List Int} (h : 0 < ks.length) : ∀ M, M ∈ ks → (∀ a ∈ ks, a ≤ M) → Does w φ X (.builtin "max") [.list (Is ks)] (.int M) := by
  intro M hM hu A s us Q E hP hA I r k
  obtain ⟨u, rfl, a, vs, n, rfl, a9, ax, g, q⟩ := one_arg r
  refine wpAny_mono (max_wp w A hA.hd s a vs n ks g q.are h) (fun v s' hq => ?_) fun _ _ f => f.elim
  obtain ⟨M', t, rfl, h1, h2, kp, sm⟩ := hq
  have e : M' = M := Int.le_antisymm (hu _ h1) (h2 _ hM)
  subst e
  have kp' : ∀ b o, s.heap.get? b = some o → s'.heap.get? b = some o := fun b o e => kp b o e List.not_mem_nil
  exact k _ _ (I.of kp') (Ext.of kp' sm) ⟨t, rfl⟩
theorem does_min {ks : List Int} (h : 0 < ks.length) : ∀ M, M ∈ ks → (∀ a ∈ ks, M ≤ a) → Does w φ X (.builtin "min") [.list (Is ks)] (.int M) := by
  intro M hM hu A s us Q E hP hA I r k
  obtain ⟨u, rfl, a, vs, n, rfl, a9, ax, g, q⟩ := one_arg r
  refine wpAny_mono (min_wp w A hA.hd s a vs n ks g q.are h) (fun v s' hq => ?_) fun _ _ f => f.elim
  obtain ⟨M', t, rfl, h1, h2, kp, sm⟩ := hq
  have e : M' = M := Int.le_antisymm (h2 _ hM) (hu _ h1)
  subst e
  have kp' : ∀ b o, s.heap.get? b = some o → s'.heap.get? b = some o := fun b o e => kp b o e List.not_mem_nil
  exact k _ _ (I.of kp') (Ext.of kp' sm) ⟨t, rfl⟩
end Vl
end
section
open PySem PySem.W PySem.W.X PyProof.Rows
set_option Elab.async false
set_option maxRecDepth 100000
set_option maxHeartbeats 1000000
set_option linter.unusedVariables false
namespace Vl
open Mine
def KT.bnd : KT → Nat
  | .nil => 0
  | .node v l r => max 1 (max (2 * KT.bnd l) (2 * KT.bnd r + 1))
theorem KT.lt_bnd : ∀ (t : KT) (i : Nat) (o : Obj), t.get i = some o → i < KT.bnd t
  | .nil, _, _, h => by cases h
  | .node v l r, i, o, h => by
    unfold KT.get at h
    unfold KT.bnd
    split at h
    · rename_i q
      have := Nat.eq_of_beq_eq_true q
      omega
    · rename_i q
      have q0 : i ≠ 0 := fun e => by subst e; simp at q
      split at h
      · rename_i z
        have := KT.lt_bnd l _ _ h
        have z' : i % 2 = 1 := Nat.eq_of_beq_eq_true z
        omega
      · rename_i z
        have := KT.lt_bnd r _ _ h
        have z' : i % 2 ≠ 1 := fun e => by rw [e] at z; cases z
        omega
theorem kt_low {P : Params} {a : Nat} {o : Obj} (h : (kt P).get a = some o) : a < 95 := Nat.lt_of_lt_of_le (KT.lt_bnd _ _ _ h) (Nat.le_of_ble_eq_true (by kernel_rfl))
theorem Inv.touch {w : World} {X : Av} {s s' : Shared} (I : Inv w X s) {a : Addr} {o : Obj} (h9 : 95 ≤ a) (e : s.heap.get? a = some o) (so : softO o = true) (e' : a ∈ X.l → ∃ o', s'.heap.get? a = some o') (nb : X.B a = none) (nf : IsFr X a → ∃ o', s'.heap.get? a = some o' ∧ tagOf o' = 3) (k : ∀ b o, b ≠ a → s.heap.get? b = some o → s'.heap.get? b = some o) : Inv w X s' where
  kt := fun b ob hb => k b ob (fun q => by subst q; exact absurd h9 (Nat.not_le.mpr (kt_low hb))) (I.kt b ob hb)
  n := TabP.touch I.n (by decide) h9 e so k
  k := TabK.touch I.k h9 e so k
  r := TabP.touch I.r (by decide) h9 e so k
  x := fun b hb => by
    obtain ⟨h9b, ob, eb⟩ := I.x b hb
    by_cases q : b = a
    · exact ⟨h9b, q ▸ e' (q ▸ hb)⟩
    · exact ⟨h9b, ob, k b ob q eb⟩
  bs := fun b ob eb => k b ob (fun q => by subst q; rw [nb] at eb; cases eb) (I.bs b ob eb)
  f := fun en he => by
    obtain ⟨h1, L, oo, h2, h3, h4, h5, h6⟩ := I.f en he
    by_cases q : L = a
    · subst q
      obtain ⟨o', e', t'⟩ := nf ⟨en, he, h2⟩
      exact ⟨h1, L, o', h2, h3, h4, e', t'⟩
    · exact ⟨h1, L, oo, h2, h3, h4, k L oo q h5, h6⟩
end Vl
end
section
open PySem PySem.W PySem.W.X PyProof.Rows
set_option Elab.async false
set_option maxRecDepth 100000
set_option maxHeartbeats 1000000
set_option linter.unusedVariables false
namespace Vl
open Mine
variable {w : World} {X : Av} {φ : Around → Prop} {K : List (Str × NameKind)} {ρ : List (Str × V)}
theorem ev_lenSet {x x' : Str} {np np' pos pos' : Pos} {e : Expr} {ks : List Int} (hk : K.lookup x = some .globalImplicit) (hd : (x == ("__debug__" : Str)) = false) (g : Glb w x (.builtin "len"))
    (hk' : K.lookup x' = some .globalImplicit) (hd' : (x' == ("__debug__" : Str)) = false) (g' : Glb w x' (.type "set"))
    (he : ∀ env, starEach [e] env = [(false, eval e env)]) (h : Ev w φ X K ρ e (.list (Is ks))) (hn : ks.Nodup) (hb : ks.length ≤ 100) :
    Ev w φ X K ρ (.Call (.Name x np) [.Call (.Name x' np') [e] [] pos'] [] pos) (.int ks.length) := by
  intro env A s Q E hP hA hE I H k
  refine wpAny_Call_ofName (glob_wp hE I hk hd g ?_)
  refine Calls.callWith_builtin rfl ?_
  refine Calls.evalArgs_plain (x := eval (.Call (.Name x' np') [e] [] pos') env) (rest := []) (Calls.spliced_cons ?_)
  refine wpAny_Call_ofName (glob_wp hE I hk' hd' g' ?_)
  refine PySem.callWith_type (by rw [he]; rfl) ?_
  rw [he]
  refine Calls.evalArgs_plain (x := eval e env) (rest := []) (Calls.spliced_cons (h env A s _ E hP hA hE I H fun u s1 I1 X1 r1 => Calls.spliced_nil ?_))
  obtain ⟨a, vs, n, rfl, a9, ax, g, q⟩ := r1
  have l1 : vs.size = ks.length := by
    have := q.len
    simp only [Is, List.length_map, Array.length_toList] at this
    exact this
  refine wpAny_mono (set_wp w A hA.hd s1 a vs n ks g q.are (by omega) hn) (fun v s2 hq => ?_) fun _ _ f => f.elim
  obtain ⟨b, es, ep, t, rfl, gb, hs, hf, _, kp, sm⟩ := hq
  refine Calls.spliced_nil ?_
  refine wpAny_mono (len_wp w A hA.hd s2 b es ep t gb hf (by omega)) (fun v s3 hq => ?_) fun _ _ f => f.elim
  obtain ⟨t3, rfl, kp3, sm3⟩ := hq
  have k2 : ∀ b o, s1.heap.get? b = some o → s3.heap.get? b = some o := fun b o e => kp3 b o (kp b o e List.not_mem_nil) List.not_mem_nil
  rw [hs, l1]
  exact k _ s3 (I1.of k2) (X1.trans (Ext.of k2 (sm.trans sm3))) ⟨_, rfl⟩
/-- the tests of a comprehension -/
def TrF (w : World) (φ : Around → Prop) (X : Av) (K : List (Str × NameKind)) (ρ : List (Str × V)) (ifs : List Expr) (b : Bool) : Prop :=
  ∀ (env : Env) (A : Around) (s : Shared) (Q : Bool → Shared → Prop) (E : Value → Shared → Prop), φ A → AOk A → EnvIs K env → Inv w X s → Has X env s.heap ρ →
    (∀ s', Inv w X s' → Ext s s' → Q b s') → wpAny (model prg w) A (forIn ifs true fun c r => if r = true then do let ok ← isTrue c env (eval c env); pure (ForInStep.yield ok) else pure (ForInStep.yield r)) Q E s
theorem trf_nil : TrF w φ X K ρ [] true := fun env A s Q E hP hA hE I H k => wpAny_tests_nil (k s I (Ext.refl s))
theorem trf_one {c : Expr} {b : Bool} (h : Tr w φ X K ρ c b) : TrF w φ X K ρ [c] b := fun env A s Q E hP hA hE I H k => wpAny_tests_one (h env A s Q E hP hA hE I H k)
/-- binding a target (names local to the frame) -/
def Bind (w : World) (X : Av) (K : List (Str × NameKind)) (t : Expr) (x : V) (β : List (Str × V)) : Prop :=
  ∀ (env : Env) (A : Around) (s : Shared) (v : Value) (m : Str → Option Value) (Q : Unit → Shared → Prop) (E : Value → Shared → Prop), AOk A → EnvIs K env → Inv w X s → (95 ≤ env.locals ∧ X.B env.locals = none) → s.heap.Ns env.locals m → Rep X s.heap x v →
    (∀ s' m', (∀ b o, b ≠ env.locals → s.heap.get? b = some o → s'.heap.get? b = some o) → Same s s' → s'.heap.Ns env.locals m' → (∀ y, β.lookup y = none → m' y = m y) → (∀ y u, β.lookup y = some u → K.lookup y = some .local ∧ ∃ z, m' y = some z ∧ Rep X s'.heap u z) → Q () s') →
    wpAny (model prg w) A (assign t env v) Q E s
theorem ns_tag {h : Heap} {L : Addr} {m : Str → Option Value} (n : h.Ns L m) : ∃ o, h.get? L = some o ∧ tagOf o = 3 := by
  obtain ⟨o, es, ep, e, d, _⟩ := n
  exact ⟨o, e, by unfold tagOf; rw [d]⟩
theorem soft_of3 {o : Obj} (t : tagOf o = 3) : softO o = true := by
  unfold tagOf at t
  unfold softO
  cases h : o.data <;> rw [h] at t <;> first | rfl | (simp at t)
theorem lists_but {X : Av} {h h' : Heap} {a : Addr} {o : Obj} (e : h.get? a = some o) (t : tagOf o ≠ 2) (k : ∀ b o, b ≠ a → h.get? b = some o → h'.get? b = some o) : Lists X h h' := fun b vs n _ _ g => k b _ (fun q => by
  subst q
  rw [e] at g; cases g
  exact t rfl) g
theorem bind_name {x : Str} {pos : Pos} {v : V} (hk : K.lookup x = some .local) : Bind w X K (.Name x pos) v [(x, v)] := by
  intro env A s u m Q E hA hE I h9 n r k
  refine wpAny_assign_Name (wpAny_storeName_local ((hE.k x).trans hk) n (fun h' n' sb => ?_) (by rw [hE.kind]; rfl))
  obtain ⟨o, e, t⟩ := ns_tag n
  refine k _ _ (fun b o hb e => sb.extBut b o hb e) ⟨rfl, rfl⟩ n' (fun y hy => ?_) fun y u' hy => ?_
  · have hyx : y ≠ x := by
      rintro rfl
      simp at hy
    exact if_neg hyx
  · have hyx : y = x := by
      by_cases q : y = x
      · exact q
      · rw [List.lookup_cons, show (y == x) = false from by simpa using q] at hy; simp at hy
    subst hyx
    rw [List.lookup_cons, show (y == y) = true from by simp] at hy
    cases hy
    exact ⟨hk, u, if_pos rfl, Rep.up (lists_but e (by rw [t]; decide) fun b o hb e => sb.extBut b o hb e) _ _ r⟩
end Vl
namespace Vl
open Mine
variable {w : World} {X : Av} {φ : Around → Prop} {K : List (Str × NameKind)} {ρ : List (Str × V)}
theorem draw_list {prog : Program} {w : World} {A : Around} {E : Value → Shared → Prop} {it t : Addr} {items : Array Value} (hne : t ≠ it) : ∀ (n i : Nat) (s : Shared) (Q : List Value → Shared → Prop), s.heap.IsListIter it t i → s.heap.IsList t items → i + n ≤ items.size →
    (∀ h', h'.IsListIter it t (i + n) → Heap.SameBut it s.heap h' → Q ((items.toList.drop i).take n) { s with heap := h' }) → wpAny (model prog w) A (draw (.ref it) n) Q E s
  | 0, i, s, Q, hit, _, _, hQ => by
    show wpAny _ _ (pure []) Q E s
    exact wpAny_pure (by simpa using hQ s.heap hit (Heap.SameBut.refl ..))
  | n + 1, i, s, Q, hit, ht, hle, hQ => by
    have hlt : i < items.size := by omega
    show wpAny _ _ (pyNext (.ref it) >>= _) Q E s
    refine wpAny_bind (wpAny_pyNext_list_item hit ht (x := items[i]) (by simp [hlt]) fun h₁ hit₁ hs₁ => ?_)
    refine wpAny_bind (wpAny_holding (draw_list hne n (i + 1) _ _ hit₁ (ht.extBut hs₁.extBut hne) (by omega) fun h₂ hit₂ hs₂ => wpAny_pure ?_))
    have hd : items.toList.drop i = items[i] :: items.toList.drop (i + 1) := by simp [List.drop_eq_getElem_cons, hlt]
    have := hQ h₂ (by rw [show i + (n + 1) = i + 1 + n by omega]; exact hit₂) (hs₁.trans hs₂)
    rw [hd, List.take_succ_cons] at this
    exact this
theorem unpack_list {A : Around} {E : Value → Shared → Prop} {s : Shared} {t : Addr} {items : Array Value} {Q : List Value → Shared → Prop} (hh : A.handled = none) (ht : s.heap.IsList t items)
    (hQ : ∀ h', Heap.ExtBut s.heap.objs.size s.heap h' → Q items.toList { s with heap := h' }) : wpAny (model prg w) A (unpackItems (.ref t) items.size none) Q E s := by
  have hlt : t ≠ s.heap.objs.size := by obtain ⟨o, ho, _⟩ := ht; exact Nat.ne_of_lt (Heap.lt_size ho)
  unfold unpackItems
  refine wpAny_bind ?_
  unfold notIterableAtAll
  refine wpAny_bind (wpAny_specialOf ht.typeIs F.slot_list_iter.lookup ?_)
  refine wpAny_pure ?_
  simp only [Bool.false_eq_true, if_false]
  refine wpAny_bind (wpAny_holding (wpAny_pyIter_list ht ?_))
  refine wpAny_bind (wpAny_holding (draw_list hlt items.size 0 _ _ ⟨_, Heap.get?_push_size _ rfl, rfl, rfl⟩ (ht.push _) (by omega) fun h₁ hit₁ hs₁ => ?_))
  have hall : List.take items.size (List.drop 0 items.toList) = items.toList := by
    rw [List.drop_zero]; exact List.take_of_length_le (by simp)
  rw [hall]
  rw [if_neg (by simp)]
  have ht₁ : h₁.IsList t items := (ht.push _).extBut hs₁.extBut hlt
  refine wpAny_bind (wpAny_holding (wpAny_pyNext_list_end hh hit₁ ht₁ (by simp) fun h₂ he₂ => ?_))
  simp only [Option.isSome_none, Bool.false_eq_true, if_false]
  exact wpAny_pure (hQ h₂ fun b o hb e => he₂ b o hb (hs₁.extBut b o hb (Heap.get?_push_of_some _ e)))
theorem not_new {h : Heap} {b : Addr} {o : Obj} (e : h.get? b = some o) : b ≠ h.objs.size := Nat.ne_of_lt (Heap.lt_size e)
theorem bind_pair {x y : Str} {px py pos : Pos} {k : Nat} {a b : V} (hx : K.lookup x = some .local) (hy : K.lookup y = some .local) (hxy : (y == x) = false) :
    Bind w X K (.Tuple [.Name x px, .Name y py] k pos) (.list [a, b]) [(y, b), (x, a)] := by
  intro env A s u m Q E hA hE I h9 n r k
  obtain ⟨t, vs, c, rfl, t9, tx, g, q⟩ := r
  obtain ⟨v1, v2, e, r1, r2⟩ := two_arg q
  have sz : vs.size = 2 := by have := congrArg List.length e; simpa using this
  rw [arm_assign_Tuple]
  refine wpAny_bind (wpAny_standAt ?_)
  unfold unpack
  refine wpAny_bind (wpAny_holding ?_)
  show wpAny _ A (unpackItems (.ref t) 2 none) _ E s
  rw [← sz]
  refine unpack_list hA.hd (isList_of g) fun h1 k1 => ?_
  have kk1 : ∀ b o, s.heap.get? b = some o → h1.get? b = some o := fun b o e => k1 b o (not_new e) e
  rw [e]
  have I1 : Inv w X { s with heap := h1 } := I.of kk1
  have l1 : Lists X s.heap h1 := fun b _ _ _ _ g => kk1 b _ g
  refine wpAny_bind (wpAny_holding (bind_name hx env A _ v1 m _ E hA hE I1 h9 (n.keeps kk1) (Rep.up l1 _ _ r1) fun s2 m2 k2 sm2 n2 hm2 hb2 => ?_))
  obtain ⟨o2, e2, t2⟩ := ns_tag (n.keeps kk1)
  have l2 : Lists X h1 s2.heap := lists_but e2 (by rw [t2]; decide) k2
  obtain ⟨o2', e2', t2'⟩ := ns_tag n2
  have I2 : Inv w X s2 := I1.touch h9.1 e2 (soft_of3 t2) (fun _ => ⟨_, e2'⟩) h9.2 (fun _ => ⟨_, e2', t2'⟩) k2
  refine wpAny_bind (wpAny_holding (bind_name hy env A _ v2 m2 _ E hA hE I2 h9 n2 (Rep.up l2 _ _ (Rep.up l1 _ _ r2)) fun s3 m3 k3 sm3 n3 hm3 hb3 => wpAny_pure ?_))
  have l3 : Lists X s2.heap s3.heap := lists_but e2' (by rw [t2']; decide) k3
  refine k s3 m3 (fun b o hb e => k3 b o hb (k2 b o hb (kk1 b o e))) (sm2.trans sm3) n3 (fun z hz => ?_) fun z u hz => ?_
  · have zy : (z == y) = false := by
      cases q : z == y with
      | false => rfl
      | true => rw [List.lookup_cons, q] at hz; simp at hz
    have zx : (z == x) = false := by
      cases q : z == x with
      | false => rfl
      | true => rw [List.lookup_cons, zy, List.lookup_cons, q] at hz; simp at hz
    rw [hm3 z (by rw [List.lookup_cons, zy]; rfl), hm2 z (by rw [List.lookup_cons, zx]; rfl)]
  · cases q : z == y with
    | true =>
      rw [List.lookup_cons, q] at hz; cases hz
      exact hb3 z _ (by rw [List.lookup_cons, q])
    | false =>
      rw [List.lookup_cons, q] at hz
      have hz' : (List.lookup z [(x, a)]) = some u := hz
      obtain ⟨h1, z1, h2, h3⟩ := hb2 z u hz'
      refine ⟨h1, z1, ?_, Rep.up l3 _ _ h3⟩
      rw [hm3 z (by rw [List.lookup_cons, q]; rfl)]; exact h2
end Vl
end
section
open PySem PySem.W PySem.W.X PyProof.Rows
set_option Elab.async false
set_option maxRecDepth 100000
set_option maxHeartbeats 1000000
set_option linter.unusedVariables false
namespace Vl
open Mine
variable {w : World} {X : Av} {φ : Around → Prop} {K : List (Str × NameKind)} {ρ : List (Str × V)}
/-- lists of old are known to both -/
def OwnB (X Y : Av) : Prop := ∀ a o, X.B a = some o → o.cls = .type "list" → Y.B a = some o
mutual
theorem Rep.less {X Y : Av} {h : Heap} (s : ∀ a, a ∈ Y.l → a ∈ X.l) (b : OwnB X Y) : ∀ (x : V) (v : Value), Rep X h x v → Rep Y h x v
  | .none, _, r => r
  | .bool _, _, r => r
  | .int _, _, r => r
  | .str _, _, r => r
  | .typ _, _, r => r
  | .val _, _, r => r
  | .own _, _, ⟨a, o, vs, n, e, h1, h2, h3⟩ => ⟨a, o, vs, n, e, b a o h1 h2, h2, h3⟩
  | .list l, v, ⟨a, vs, n, e, h9, hx, g, r⟩ => ⟨a, vs, n, e, h9, fun m => hx (s a m), g, RepL.less s b l _ r⟩
theorem RepL.less {X Y : Av} {h : Heap} (s : ∀ a, a ∈ Y.l → a ∈ X.l) (b : OwnB X Y) : ∀ (l : List V) (vs : List Value), RepL X h l vs → RepL Y h l vs
  | [], _, r => r
  | x :: l, _, ⟨v, r, e, p, q⟩ => ⟨v, r, e, Rep.less s b x v p, RepL.less s b l r q⟩
end
mutual
theorem Rep.more {X : Av} {h : Heap} {D : Addr} (hD : h.get? D = none) : ∀ (x : V) (v : Value), Rep X h x v → Rep (X.add D) h x v
  | .none, _, r => r
  | .bool _, _, r => r
  | .int _, _, r => r
  | .str _, _, r => r
  | .typ _, _, r => r
  | .val _, _, r => r
  | .own _, _, r => r
  | .list l, v, ⟨a, vs, n, e, h9, hx, g, r⟩ => ⟨a, vs, n, e, h9, fun m => by
      rcases List.mem_cons.mp m with q | q
      · rw [q, hD] at g; cases g
      · exact hx q, g, RepL.more hD l _ r⟩
theorem RepL.more {X : Av} {h : Heap} {D : Addr} (hD : h.get? D = none) : ∀ (l : List V) (vs : List Value), RepL X h l vs → RepL (X.add D) h l vs
  | [], _, r => r
  | x :: l, _, ⟨v, r, e, p, q⟩ => ⟨v, r, e, Rep.more hD x v p, RepL.more hD l r q⟩
end
/-- a source of items, taken one by one -/
structure SrcOk (w : World) (X : Av) (A : Around) (t : Expr) (s₁ : Shared) (xs : List V) (I : Addr) (fp : List Addr) (St : Nat → Heap → Prop) (Pv : Nat → Value → Prop) : Prop where
  W : Walks prg w A I fp [I] xs.length Pv St
  rep : ∀ h i v x, Lists X s₁.heap h → Pv i v → xs[i]? = some x → Rep X h x v
  soft : ∀ i h, St i h → ∃ o, h.get? I = some o ∧ softO o = true ∧ tagOf o = 9
  go : ∀ i (s : Shared) (Q : Unit → Shared → Prop) (E : Value → Shared → Prop) (v : Value), St i s.heap → Q () s → wpAny (model prg w) A (letOwnedTupleGo t (.ref I) v) Q E s
  fp : ∀ b ∈ fp, b = I ∨ ∃ o, 95 ≤ b ∧ tagOf o ≠ 3 ∧ s₁.heap.get? b = some o
def Src (w : World) (φ : Around → Prop) (X : Av) (K : List (Str × NameKind)) (ρ : List (Str × V)) (t iter : Expr) (xs : List V) : Prop :=
  ∀ (env : Env) (A : Around) (s : Shared) (Q : Value → Shared → Prop) (E : Value → Shared → Prop), φ A → AOk A → EnvIs K env → Inv w X s → Has X env s.heap ρ →
    (∀ I s₁ s₂ fp St Pv, Inv w X s₁ → Ext s s₁ → Inv w X s₂ → (∀ b o, s₁.heap.get? b = some o → s₂.heap.get? b = some o) → Same s₁ s₂ → s₁.heap.get? I = none → 95 ≤ I → SrcOk w X A t s₁ xs I fp St Pv → St 0 s₂.heap → Q (.ref I) s₂) →
    wpAny (model prg w) A (eval iter env) (fun x s₁ => wpAny (model prg w) A (pyIter x) Q E s₁) E s
def plainT (t : Expr) : Bool := match t with | .Name .. => true | .Tuple .. => true | _ => false
theorem src_list {t iter : Expr} {xs : List V} (h : Ev w φ X K ρ iter (.list xs)) (ht : plainT t = true) : Src w φ X K ρ t iter xs := by
  intro env A s Q E hP hA hE I H k
  refine h env A s _ E hP hA hE I H fun u s1 I1 X1 r1 => ?_
  obtain ⟨a, vs, n, rfl, a9, ax, g, q⟩ := r1
  have l1 : vs.size = xs.length := by rw [← q.len]; simp
  refine wpAny_pyIter_list (isList_of g) ?_
  have kp : ∀ b o, s1.heap.get? b = some o → (s1.heap.push { cls := .type "list_iterator", data := .fields #[.ref a, .int 0 0] }).get? b = some o := fun b o e => Heap.get?_push_of_some _ e
  refine k s1.heap.objs.size s1 _ [s1.heap.objs.size, a] (fun i h => h.IsListIter s1.heap.objs.size a i ∧ h.IsList a vs) (fun i v => vs[i]? = some v) I1 X1 (inv_push I1 _ s1.toks) kp ⟨rfl, rfl⟩ get_size I1.high ?_ ⟨⟨_, Heap.get?_push_size _ rfl, rfl, rfl⟩, isList_of (kp _ _ g)⟩
  refine ⟨l1 ▸ Walks.list hA.hd s1.heap.objs.size a (not_new g) vs, fun h i v x lk pv ex => ?_, fun i h st => ?_, fun i s' Q' E' v st hQ => ?_, fun b hb => ?_⟩
  · obtain ⟨z, ez, rz⟩ := q.at i x ex
    have : z = v := by
      have pv' : vs.toList[i]? = some v := by simpa using pv
      rw [pv'] at ez; exact (Option.some.inj ez).symm
    subst this
    exact Rep.up lk _ _ rz
  · obtain ⟨o, ho, hc, hd⟩ := st.1
    exact ⟨o, ho, by unfold softO; rw [hd]; rfl, by unfold tagOf; rw [hd]⟩
  · cases t with
    | Name => exact wpAny_pure hQ
    | Tuple es c p =>
      cases v with
      | ref T => exact wpAny_letOwnedTupleGo_listiter st.1 hQ
      | _ => exact wpAny_pure hQ
    | _ => simp [plainT] at ht
  · simp only [List.mem_cons, List.not_mem_nil, or_false] at hb
    rcases hb with rfl | rfl
    · exact .inl rfl
    · exact .inr ⟨_, a9, (by show (2 : Nat) ≠ 3; decide), g⟩
theorem src_range {np np' pos' : Pos} {x' x : Str} {e : Expr} {n : Nat} (hk : K.lookup x' = some .globalImplicit) (hd : (x' == ("__debug__" : Str)) = false) (g : Glb w x' (.type "range"))
    (he : ∀ env, starEach [e] env = [(false, eval e env)]) (h : Ev w φ X K ρ e (.int n)) (hb : n ≤ 1000) : Src w φ X K ρ (.Name x np) (.Call (.Name x' np') [e] [] pos') ((List.range n).map fun (i : Nat) => V.int ((i : Nat) : Int)) := by
  intro env A s Q E hP hA hE I H k
  refine wpAny_Call_ofName (glob_wp hE I hk hd g ?_)
  refine PySem.callWith_type (by rw [he]; rfl) ?_
  rw [he]
  refine Calls.evalArgs_plain (x := eval e env) (rest := []) (Calls.spliced_cons (h env A s _ E hP hA hE I H fun u s1 I1 X1 r1 => Calls.spliced_nil ?_))
  obtain ⟨t, rfl⟩ := r1
  refine call_range_1 ?_
  have I2 := inv_push I1 { cls := .type "range", data := .fields #[.int 0 s1.toks, .int n t, .int 1 (s1.toks + 1)] } (s1.toks + 1 + 1)
  have X2 := X1.trans (ext_push s1 { cls := .type "range", data := .fields #[.int 0 s1.toks, .int n t, .int 1 (s1.toks + 1)] } (s1.toks + 1 + 1))
  generalize hs2 : ({ s1 with heap := s1.heap.push { cls := .type "range", data := .fields #[.int 0 s1.toks, .int n t, .int 1 (s1.toks + 1)] }, toks := s1.toks + 1 + 1 } : Shared) = s2 at I2 X2 ⊢
  have hR : IsRange s2.heap s1.heap.objs.size 0 n 1 s1.toks t (s1.toks + 1) := by subst hs2; exact IsRange.new ..
  have hz : Builtin.Range.rangeSize 0 (n : Int) 1 = n := by
    unfold Builtin.Range.rangeSize
    simp
    omega
  have hsm : Builtin.Range.small 0 (n : Int) 1 = true := by
    unfold Builtin.Range.small
    rw [hz]
    unfold Builtin.Range.rangeFitsLong
    simp
    omega
  refine wpAny_pyIter_range hR hsm ?_
  rw [hz]
  have kp : ∀ b o, s2.heap.get? b = some o → (s2.heap.push { cls := .type "range_iterator", data := .fields #[rawInt 0, rawInt n, rawInt 1] }).get? b = some o := fun b o e => Heap.get?_push_of_some _ e
  refine k s2.heap.objs.size s2 _ [s2.heap.objs.size] (fun i h => IsRangeIter h s2.heap.objs.size (0 + (i : Nat) * 1) ((n : Int) - (i : Nat)) 1) (fun i v => ∃ t, v = .int (0 + i * 1) t) I2 X2 (inv_push I2 _ s2.toks) kp ⟨rfl, rfl⟩ get_size I2.high ?_ ?_
  · refine ⟨by simpa using Walks.range hA.hd s2.heap.objs.size 0 1 n, fun h i v x lk pv ex => ?_, fun i h st => ⟨_, st, rfl, rfl⟩, fun i s' Q' E' v st hQ => wpAny_pure hQ, fun b hb => ?_⟩
    · obtain ⟨t, rfl⟩ := pv
      obtain ⟨j, hj, ej⟩ : ∃ j, (List.range n)[i]? = some j ∧ V.int (j : Int) = x := by simpa using ex
      have : j = i := by
        have := List.getElem?_eq_some_iff.mp hj
        obtain ⟨_, h2⟩ := this
        simpa using h2.symm
      subst this
      rw [← ej]
      exact ⟨t, by simp⟩
    · exact .inl (by simpa using hb)
  · show IsRangeIter _ _ _ _ _
    have e1 : (0 : Int) + ((0 : Nat) : Int) * 1 = 0 := by omega
    have e2 : (n : Int) - ((0 : Nat) : Int) = n := by omega
    rw [e1, e2]
    exact Heap.get?_push_size _ rfl
end Vl
end
section
open PySem PySem.W PySem.W.X PyProof.Rows
set_option Elab.async false
set_option maxRecDepth 100000
set_option maxHeartbeats 1000000
set_option linter.unusedVariables false
namespace Vl
open Mine
variable {w : World} {X : Av} {φ : Around → Prop} {K : List (Str × NameKind)} {ρ : List (Str × V)}
theorem compLoop_gen {elt target iter : Expr} {ifs : List Expr} {scope : Scope} {pos : Pos} {it acc : Value} {env : Env} {A : Around} {R : Result → Shared → Prop} {s : Shared} (J : Nat → Shared → Prop)
    (turn : ∀ n s, J n s → ∀ E : Value → Shared → Prop, wpAny (model prg w) A (pyNext it) (fun r s₁ => match r with
      | none => R (.ok .next) s₁
      | some v => wpAny (model prg w) A (letOwnedTupleGo target it v) (fun _ s₁' => wpAny (model prg w) A (assign target env v) (fun _ s₂ =>
          wpAny (model prg w) A (forIn ifs true fun c r => if r = true then do let ok ← isTrue c env (eval c env); pure (ForInStep.yield ok) else pure (ForInStep.yield r)) (fun ok s₃ =>
            if ok = true then wpAny (model prg w) A (eval elt env) (fun x s₄ => wpAny (model prg w) A (call (.builtin "list.append") [acc, x]) (fun _ s₅ => ∃ m, m < n ∧ J m s₅) E s₄) E s₃
            else ∃ m, m < n ∧ J m s₃) E s₂) E s₁') E s₁) E s)
    (n : Nat) (h : J n s) : codeAny (model prg w) A (.compLoop (.ListComp elt [⟨target, iter, ifs, 0⟩] scope pos) 0 it acc env) R s := by
  refine codeAny_loop rfl J (fun n s hJ => ?_) n h
  show wpAny _ A ((compTurn (.ListComp elt [⟨target, iter, ifs, 0⟩] scope pos) 0 it acc env).onRaise (fun x => do noteFrame x env; theTreesLotGoes x)) _ _ s
  refine wpAny_noted ?_
  rw [compTurn_list]
  refine wpAny_bind (wpAny_standAt (wpAny_bind (wpAny_mono (turn n s hJ _) (fun r s₁ h₁ => ?_) fun _ _ h' => h')))
  cases r with
  | none => exact wpAny_pure h₁
  | some v =>
    refine wpAny_bind (wpAny_mono h₁ (fun _ s₁' h₁' => ?_) fun _ _ h' => h')
    refine wpAny_bind (wpAny_mono h₁' (fun _ s₂ h₂ => wpAny_bind (wpAny_mono h₂ (fun ok s₃ h₃ => ?_) fun _ _ h' => h')) fun _ _ h' => h')
    cases ok with
    | false => exact wpAny_pure ⟨rfl, h₃⟩
    | true =>
      exact wpAny_bind (wpAny_bind (wpAny_mono h₃ (fun x s₄ h₄ => wpAny_bind (wpAny_mono h₄ (fun _ s₅ h₅ => wpAny_pure (wpAny_pure ⟨rfl, h₅⟩)) fun _ _ h' => h')) fun _ _ h' => h'))
def relab (K names : List (Str × NameKind)) : List (Str × NameKind) := names.map fun p => if (p.2 == .free && K.lookup p.1 == some .cell) then (p.1, .cell) else p
def cap (ρ : List (Str × V)) (names : List (Str × NameKind)) : List (Str × V) := ρ.filter fun p => names.lookup p.1 == some .free
def scopeOk (K : List (Str × NameKind)) (ρ : List (Str × V)) (names : List (Str × NameKind)) : Bool :=
  names.all fun p => p.2 != .cell && (p.2 != .local || names.lookup p.1 == some .local) && (p.2 != .free || (K.lookup p.1 == some .cell && (ρ.lookup p.1).isSome))
theorem relabel_names {env : Env} (hE : EnvIs K env) (scope : Scope) : (relabel scope env).names = relab K scope.names := by
  unfold relabel relab
  simp only
  congr 1
  funext p
  obtain ⟨n, k⟩ := p
  simp [hE.kind, hE.k n]
theorem cap_lookup {ρ : List (Str × V)} {names : List (Str × NameKind)} {y : Str} {v : V} : (cap ρ names).lookup y = some v → names.lookup y = some .free ∧ ρ.lookup y = some v := by
  intro h
  unfold cap at h
  induction ρ with
  | nil => simp at h
  | cons p ρ ih =>
    obtain ⟨n, u⟩ := p
    rw [List.filter_cons] at h
    split at h
    · rename_i hp
      rw [List.lookup_cons] at h ⊢
      cases q : y == n with
      | true =>
        rw [q] at h; cases h
        have : y = n := by simpa using q
        subst this
        exact ⟨by simpa using hp, rfl⟩
      | false =>
        rw [q] at h
        exact ih h
    · rename_i hp
      obtain ⟨h1, h2⟩ := ih h
      refine ⟨h1, ?_⟩
      rw [List.lookup_cons]
      cases q : y == n with
      | true =>
        have : y = n := by simpa using q
        subst this
        rw [h1] at hp; simp at hp
      | false => exact h2
theorem relab_free {K names : List (Str × NameKind)} {y : Str} (h : names.lookup y = some .free) (hk : K.lookup y = some .cell) : (relab K names).lookup y = some .cell := by
  unfold relab
  induction names with
  | nil => simp at h
  | cons p names ih =>
    obtain ⟨n, k⟩ := p
    rw [List.lookup_cons] at h
    rw [List.map_cons]
    cases q : y == n with
    | true =>
      rw [q] at h; cases h
      have : y = n := by simpa using q
      subst this
      have e : (if ((y, NameKind.free).2 == NameKind.free && K.lookup (y, NameKind.free).1 == some .cell) = true then ((y, NameKind.free).1, NameKind.cell) else (y, NameKind.free)) = (y, NameKind.cell) := if_pos (by simp [hk])
      rw [e, List.lookup_cons, q]
    | false =>
      rw [q] at h
      have e : ∀ z : Str × NameKind, z.1 = n → (List.lookup y (z :: List.map (fun p => if (p.2 == .free && K.lookup p.1 == some .cell) then (p.1, .cell) else p) names)) = some .cell := fun z hz => by
        obtain ⟨a, b⟩ := z
        simp only at hz
        subst hz
        rw [List.lookup_cons, q]; exact ih h
      refine e _ ?_
      split <;> rfl
def clOf : List (Str × NameKind) → List (Str × Addr) → List (Str × Addr) → List (Str × Addr)
  | [], _, acc => acc
  | (n, k) :: r, cells, acc => match k == .free, cells.lookup n with
    | true, some c => clOf r cells ((n, c) :: acc)
    | _, _ => clOf r cells acc
theorem closure_wp {env : Env} (names : List (Str × NameKind)) (acc : List (Str × Addr)) (h : ∀ p ∈ names, p.2 = .free → (env.cells.lookup p.1).isSome = true)
    (f : Str × NameKind → List (Str × Addr) → Sem (ForInStep (List (Str × Addr)))) (hf : ∀ name kind cs, f (name, kind) cs = if kind == .free then (do let a ← cellOf env name; pure (.yield ((name, a) :: cs))) else pure (.yield cs)) :
    forIn names acc f = pure (clOf names env.cells acc) := by
  induction names generalizing acc with
  | nil => rfl
  | cons p names ih =>
    obtain ⟨n, k⟩ := p
    have hr : ∀ p ∈ names, p.2 = .free → (env.cells.lookup p.1).isSome = true := fun p hp => h p (List.mem_cons_of_mem _ hp)
    rw [List.forIn_cons, hf]
    unfold clOf
    cases q : k == NameKind.free with
    | false =>
      simp only [Bool.false_eq_true, if_false, pure_bind]
      exact ih acc hr
    | true =>
      obtain ⟨c, hc⟩ := Option.isSome_iff_exists.mp (h (n, k) List.mem_cons_self (by simpa using q))
      simp only at hc
      simp only [if_true, hc]
      have : cellOf env n = pure c := by unfold cellOf; rw [hc]
      rw [this]
      simp only [pure_bind]
      exact ih _ hr
theorem clOf_mem {names : List (Str × NameKind)} {cells acc : List (Str × Addr)} (ha : ∀ p ∈ acc, cells.lookup p.1 = some p.2) : ∀ p ∈ clOf names cells acc, cells.lookup p.1 = some p.2 := by
  induction names generalizing acc with
  | nil => exact ha
  | cons q names ih =>
    obtain ⟨n, k⟩ := q
    unfold clOf
    split
    · rename_i c _ hc
      refine ih fun p hp => ?_
      rcases List.mem_cons.mp hp with rfl | hp
      · exact hc
      · exact ha p hp
    · exact ih ha
theorem clOf_acc {names : List (Str × NameKind)} {cells acc : List (Str × Addr)} : ∀ p ∈ acc, p ∈ clOf names cells acc := by
  induction names generalizing acc with
  | nil => exact fun p h => h
  | cons q names ih =>
    obtain ⟨n, k⟩ := q
    intro p hp
    unfold clOf
    split
    · exact ih p (List.mem_cons_of_mem _ hp)
    · exact ih p hp
theorem clOf_has {names : List (Str × NameKind)} {cells acc : List (Str × Addr)} {y : Str} {c : Addr} (hy : (y, NameKind.free) ∈ names) (hc : cells.lookup y = some c) : (y, c) ∈ clOf names cells acc := by
  induction names generalizing acc with
  | nil => cases hy
  | cons q names ih =>
    obtain ⟨n, k⟩ := q
    unfold clOf
    rcases List.mem_cons.mp hy with e | hy
    · cases e
      simp only [hc]
      exact clOf_acc _ List.mem_cons_self
    · split
      · exact ih hy
      · exact ih hy
theorem lookup_of_mem {l : List (Str × Addr)} {y : Str} {c : Addr} (h : (y, c) ∈ l) (u : ∀ p ∈ l, ∀ d, p = (y, d) → d = c) : l.lookup y = some c := by
  induction l with
  | nil => cases h
  | cons p l ih =>
    obtain ⟨n, d⟩ := p
    rw [List.lookup_cons]
    cases q : y == n with
    | true =>
      have : y = n := by simpa using q
      subst this
      rw [u _ List.mem_cons_self d rfl]
    | false =>
      rcases List.mem_cons.mp h with e | h
      · cases e; simp at q
      · exact ih h fun p hp => u p (List.mem_cons_of_mem _ hp)
theorem clOf_lookup {names : List (Str × NameKind)} {cells : List (Str × Addr)} {y : Str} {c : Addr} (hy : names.lookup y = some .free) (hc : cells.lookup y = some c) : (clOf names cells []).lookup y = some c := by
  have hm : (y, NameKind.free) ∈ names := by
    clear hc
    induction names with
    | nil => simp at hy
    | cons p names ih =>
      obtain ⟨n, k⟩ := p
      rw [List.lookup_cons] at hy
      cases q : y == n with
      | true =>
        rw [q] at hy; cases hy
        have : y = n := by simpa using q
        subst this
        exact List.mem_cons_self
      | false => rw [q] at hy; exact List.mem_cons_of_mem _ (ih hy)
  refine lookup_of_mem (clOf_has hm hc) fun p hp d e => ?_
  have := clOf_mem (names := names) (cells := cells) (acc := []) (fun _ h => nomatch h) p hp
  rw [e] at this
  simp only at this
  rw [hc] at this; exact (Option.some.inj this).symm
end Vl
end
section
open PySem PySem.W PySem.W.X PyProof.Rows
set_option Elab.async false
set_option maxRecDepth 100000
set_option maxHeartbeats 2000000
set_option linter.unusedVariables false
namespace Vl
open Mine
variable {w : World} {X : Av} {φ : Around → Prop} {K : List (Str × NameKind)} {ρ : List (Str × V)}
theorem Ext.touch {s s' s'' : Shared} (x : Ext s s') {a : Addr} (h : s.heap.get? a = none) (k : ∀ b o, b ≠ a → s'.heap.get? b = some o → s''.heap.get? b = some o) (sm : Same s' s'') : Ext s s'' where
  keep := fun b o h9 t e => k b o (fun q => by subst q; rw [h] at e; cases e) (x.keep b o h9 t e)
  ns := fun L m h9 n => by
    have hL : L ≠ a := by
      rintro rfl
      obtain ⟨o, _, _, e, _⟩ := n
      rw [h] at e; cases e
    obtain ⟨o, es, ep, e, r⟩ := x.ns L m h9 n
    exact ⟨o, es, ep, k L o hL e, r⟩
  al := fun b o e => let ⟨o', e'⟩ := x.al b o e; ⟨o', k b o' (fun q => by subst q; rw [h] at e; cases e) e'⟩
  same := x.same.trans sm
theorem ns_off {h h' : Heap} {L : Addr} {m : Str → Option Value} (n : h.Ns L m) (k : ∀ o, h.get? L = some o → h'.get? L = some o) : h'.Ns L m := by
  obtain ⟨o, es, ep, e, r⟩ := n
  exact ⟨o, es, ep, k o e, r⟩
theorem cells_of {env : Env} {h : Heap} {X : Av} {ρ : List (Str × V)} {names K : List (Str × NameKind)} (hE : EnvIs K env) (H : Has X env h ρ) (hsc : scopeOk K ρ names = true) :
    ∀ p ∈ names, p.2 = .free → (env.cells.lookup p.1).isSome = true := by
  intro p hp hf
  have := List.all_eq_true.mp hsc p hp
  simp only [hf, Bool.and_eq_true, Bool.or_eq_true] at this
  obtain ⟨_, h3⟩ := this
  rcases h3 with h3 | ⟨h3, h4⟩
  · simp at h3
  · obtain ⟨v, hv⟩ := Option.isSome_iff_exists.mp h4
    obtain ⟨u, _, b⟩ := H _ _ hv
    have hk : env.kindOf p.1 = some .cell := by rw [hE.k]; simpa using h3
    rcases b with ⟨a, _⟩ | ⟨_, c, e, _⟩
    · rw [hk] at a; cases a
    · rw [e]; rfl
theorem has_inner {env cenv : Env} {s s' : Shared} {D : Addr} {β : List (Str × V)} {names K : List (Str × NameKind)} {m : Str → Option Value} (hE : EnvIs K env) (H : Has X env s.heap ρ) (hD : s.heap.get? D = none) (x : Ext s s')
    (hsc : scopeOk K ρ names = true) (hk : ∀ y, cenv.kindOf y = (relab K names).lookup y) (hc : cenv.cells = clOf names env.cells []) (h9 : 95 ≤ cenv.locals) (n : s'.heap.Ns cenv.locals m)
    (hβ : ∀ y u, β.lookup y = some u → (relab K names).lookup y = some .local ∧ ∃ z, m y = some z ∧ Rep (X.add D) s'.heap u z) : Has (X.add D) cenv s'.heap (β ++ cap ρ names) := by
  intro y v hy
  rw [List.lookup_append] at hy
  cases q : β.lookup y with
  | some u =>
    rw [q] at hy
    have e : u = v := by simpa using hy
    subst e
    obtain ⟨h1, z, h2, h3⟩ := hβ y u q
    exact ⟨z, h3, .inl ⟨(hk y).trans h1, h9, m, n, h2⟩⟩
  | none =>
    rw [q] at hy
    obtain ⟨h1, h2⟩ := cap_lookup (by simpa using hy)
    obtain ⟨z, hz, b⟩ := H y v h2
    have hcell : K.lookup y = some .cell := by
      have hm : (y, NameKind.free) ∈ names := PySem.mem_of_lookup h1
      have := List.all_eq_true.mp hsc _ hm
      simp only [Bool.and_eq_true, Bool.or_eq_true] at this
      obtain ⟨_, h3⟩ := this
      rcases h3 with h3 | ⟨h3, _⟩
      · simp at h3
      · simpa using h3
    rcases b with ⟨a, _⟩ | ⟨_, c, e, c9, hcc⟩
    · rw [hE.k, hcell] at a; cases a
    · refine ⟨z, Rep.up x.lists _ _ (Rep.more hD _ _ hz), .inr ⟨.inl ((hk y).trans (relab_free h1 hcell)), c, by rw [hc]; exact clOf_lookup h1 e, c9, ?_⟩⟩
      obtain ⟨o, ho, hd⟩ := hcc
      exact ⟨o, x.keep c o c9 (by unfold tagOf; rw [hd]; show (6 : Nat) ≠ 3; decide) ho, hd⟩
theorem scope_facts {names : List (Str × NameKind)} (hsc : scopeOk K ρ names = true) : (∀ y ∈ names, y.2 ≠ .cell) ∧ (∀ y ∈ names, y.2 = .local → names.lookup y.1 = some .local) := by
  refine ⟨fun p hp hc => ?_, fun p hp hl => ?_⟩ <;> have := List.all_eq_true.mp hsc p hp
  · simp [hc] at this
  · simp only [Bool.and_eq_true, Bool.or_eq_true] at this
    obtain ⟨⟨_, h2⟩, _⟩ := this
    rcases h2 with h2 | h2
    · simp [hl] at h2
    · simpa using h2
theorem out_succ {ι : Type} {p : ι → Bool} {F : ι → V} {xs : List ι} {i : Nat} {x : ι} (h : xs[i]? = some x) : ((xs.take (i + 1)).filter p).map F = ((xs.take i).filter p).map F ++ (if p x then [F x] else []) := by
  rw [List.take_add_one, h, List.filter_append, List.map_append]
  cases hp : p x <;> simp [hp]
theorem comp_core {elt iter tgt : Expr} {ifs : List Expr} {scope : Scope} {pos : Pos} {ι : Type} {xs : List ι} (enc : ι → V) (p : ι → Bool) (F : ι → V) (β : ι → List (Str × V))
    (hsrc : Src w φ X K ρ tgt iter (xs.map enc)) (hkind : scope.kind = .function) (hsc : scopeOk K ρ scope.names = true) (hs : ∀ env x, foldedSetIterable iter env x = pure x)
    (hβ : ∀ x ∈ xs, ∀ D, Bind w (X.add D) (relab K scope.names) tgt (enc x) (β x))
    (hT : ∀ x ∈ xs, ∀ D, TrF w φ (X.add D) (relab K scope.names) (β x ++ cap ρ scope.names) ifs (p x))
    (hF : ∀ x ∈ xs, p x = true → ∀ D, Ev w φ (X.add D) (relab K scope.names) (β x ++ cap ρ scope.names) elt (F x)) (hb : xs.length ≤ 1000)
    (use : Option (Value → Sem Unit)) (env : Env) (A : Around) (s : Shared) (Q : Value → Shared → Prop) (E : Value → Shared → Prop) (hP : φ A) (hA : AOk A) (hE : EnvIs K env) (I0 : Inv w X s) (H0 : Has X env s.heap ρ)
    (k : ∀ D C s₁ s' m, Ext s s₁ → Inv w X s₁ → Inv w X s' → Ext s₁ s' → Rep X s'.heap (.list ((xs.filter p).map F)) (.ref D) → s'.heap.Ns C m → s₁.heap.get? C = none → 95 ≤ C → C ∉ X.l → compPost (model prg w) A E use Q (.ref D) C (.ok .next) s') :
    wpAny (model prg w) A (comprehension (.ListComp elt [⟨tgt, iter, ifs, 0⟩] scope pos) scope env (firstIterPos [⟨tgt, iter, ifs, 0⟩] pos) (newList []) false (eval iter env) use) Q E s := by
  obtain ⟨hcell, hnames⟩ := scope_facts hsc
  have hclos : closureFor scope env = pure (clOf scope.names env.cells []) := by
    simp only [closureFor]
    rw [closure_wp scope.names [] (cells_of hE H0 hsc) _ (fun name kind cs => by cases h : kind == NameKind.free <;> simp [h])]
    rfl
  refine wpAny_comprehension_free (use := use) rfl (hs env) hclos hkind hnames (hsrc env A s _ E hP hA hE I0 H0 fun I s₁ s₂ fp St Pv I1 X1 I2 kp12 sm12 nI hI9 S st0 => ?_)
  refine wpAny_newObj_type (wpAny_newFunctionEnv hcell (by intro y hy; simp at hy) (fun h₁ hns₁ hsb₁ => ?_) hkind)
  dsimp only at hns₁ hsb₁ ⊢
  generalize hH2 : s₂.heap.push { cls := .type "list", dict := none, data := .seq ([] : List Value).toArray } = H2 at hns₁ hsb₁ ⊢
  have hC : H2.objs.size = s₂.heap.objs.size + 1 := by rw [← hH2, Heap.size_push]
  have hDC : s₂.heap.objs.size ≠ H2.objs.size := by rw [hC]; exact Nat.ne_of_lt (Nat.lt_succ_self _)
  have fresh2 : ∀ a, s₂.heap.objs.size ≤ a → s₂.heap.get? a = none := fun a ha => by
    cases e : s₂.heap.get? a with
    | none => rfl
    | some o' => exact absurd (Heap.lt_size e) (Nat.not_lt.mpr ha)
  have fresh1 : ∀ a, s₂.heap.objs.size ≤ a → s₁.heap.get? a = none := fun a ha => by
    cases e : s₁.heap.get? a with
    | none => rfl
    | some o' => have := kp12 a o' e; rw [fresh2 a ha] at this; cases this
  have hCle : s₂.heap.objs.size ≤ H2.objs.size := by rw [hC]; exact Nat.le_succ _
  have old : ∀ b o, s₂.heap.get? b = some o → h₁.get? b = some o := fun b o e =>
    hsb₁.extBut b o (Nat.ne_of_lt (Nat.lt_of_lt_of_le (Heap.lt_size e) hCle)) (Heap.get?_push_of_some _ (hH2 ▸ Heap.get?_push_of_some _ e))
  generalize hCa : H2.objs.size = C at hns₁ hsb₁ hDC hCle ⊢
  have hD0 : h₁.get? s₂.heap.objs.size = some (lst #[] 0) := by
    rw [lst_is]
    exact hsb₁.extBut _ _ hDC (Heap.get?_push_of_some _ (hH2 ▸ Heap.get?_push_size _ rfl))
  have hD9 : 95 ≤ s₂.heap.objs.size := I2.high
  have hC9 : 95 ≤ C := Nat.le_trans hD9 hCle
  have nD2 := fresh2 s₂.heap.objs.size (Nat.le_refl _)
  have nC2 := fresh2 C hCle
  have nD1 := fresh1 s₂.heap.objs.size (Nat.le_refl _)
  have nC1 := fresh1 C hCle
  generalize hDa : s₂.heap.objs.size = D at hD0 hDC hD9 nD2 nD1 ⊢
  have I2I : ∃ o, s₂.heap.get? I = some o := let ⟨o, ho, _⟩ := S.soft 0 _ st0; ⟨o, ho⟩
  have hDI : D ≠ I := by rintro rfl; obtain ⟨o, ho⟩ := I2I; rw [nD2] at ho; cases ho
  have hCI : C ≠ I := by rintro rfl; obtain ⟨o, ho⟩ := I2I; rw [nC2] at ho; cases ho
  have fpD : D ∉ fp := fun m => by
    rcases S.fp D m with q | ⟨o, _, _, q⟩
    · exact hDI q
    · rw [nD1] at q; cases q
  have fpC : C ∉ fp := fun m => by
    rcases S.fp C m with q | ⟨o, _, _, q⟩
    · exact hCI q
    · rw [nC1] at q; cases q
  have H1 : Has X env s₁.heap ρ := H0.up X1
  have hCX : C ∉ (X.add D).l := fun m => by
    rcases List.mem_cons.mp m with q | q
    · exact hDC q.symm
    · obtain ⟨_, o, e⟩ := I1.x C q
      rw [nC1] at e; cases e
  have X12 : Ext s₁ s₂ := Ext.of kp12 sm12
  have loop : ∀ s₃ : Shared, s₃ = { s₂ with heap := h₁, toks := s₂.toks + ([] : List (Str × Value)).length } →
      codeAny (model prg w) A (.compLoop (.ListComp elt [⟨tgt, iter, ifs, 0⟩] scope pos) 0 (.ref I) (.ref D) (compEnvC scope (clOf scope.names env.cells []) C env)) (compPost (model prg w) A E use Q (.ref D) C) s₃ := by
    rintro s₃ rfl
    have hk : ∀ y, (compEnvC scope (clOf scope.names env.cells []) C env).kindOf y = (relab K scope.names).lookup y := fun y => by
      unfold Env.kindOf compEnvC
      simp only
      rw [relabel_names hE]
    have hE' : EnvIs (relab K scope.names) (compEnvC scope (clOf scope.names env.cells []) C env) := ⟨relabel_names hE scope, hkind, hE.glob, hE.blt⟩
    refine compLoop_gen (fun n s' => ∃ (i : Nat) (ys : Array Value) (c : Nat) (m : Str → Option Value), n = xs.length + 1 - i ∧ i ≤ xs.length ∧ Inv w (X.add D) s' ∧ Ext s₁ s' ∧ St i s'.heap ∧
        s'.heap.get? D = some (lst ys c) ∧ RepL (X.add D) s'.heap (((xs.take i).filter p).map F) ys.toList ∧ s'.heap.Ns C m) ?_ (xs.length + 1)
      ⟨0, #[], 0, _, rfl, Nat.zero_le _, ?_, X12.trans (Ext.of old ⟨rfl, rfl⟩), S.W.frame 0 _ _ st0 (fun b _ o e => old b o e), hD0, rfl, hns₁⟩
    · rintro n s' ⟨i, ys, c, m, rfl, hi, Ij, Xj, stj, gD, rD, nC⟩ E'
      obtain ⟨oI, eI, sI, tI⟩ := S.soft i _ stj
      by_cases hlt : i < xs.length
      · -- a turn
        refine S.W.item i s' _ E' (by simpa using hlt) stj fun v h2 tk2 pv st2 k2 => ?_
        have k2' : ∀ b o, b ≠ I → s'.heap.get? b = some o → h2.get? b = some o := fun b o hb e => k2 b o (by simpa using hb) e
        have sa : Same s' { s' with heap := h2, toks := tk2 } := ⟨rfl, rfl⟩
        have Xa : Ext s₁ { s' with heap := h2, toks := tk2 } := Xj.touch nI k2' sa
        obtain ⟨oI2, eI2, sI2, tI2⟩ := S.soft (i + 1) _ st2
        have Ia : Inv w (X.add D) { s' with heap := h2, toks := tk2 } := Ij.touch hI9 eI sI (fun _ => ⟨_, eI2⟩) (I1.nb nI) (fun q => absurd q (Ij.frTag eI (by rw [tI]; decide))) k2'
        have la : Lists (X.add D) s'.heap h2 := lists_but eI (by rw [tI]; decide) k2'
        have gDa := k2' _ _ hDI gD
        have nCa := ns_off (h' := h2) nC fun o e => k2' _ _ hCI e
        generalize hsa : ({ s' with heap := h2, toks := tk2 } : Shared) = sa' at Xa Ia sa ⊢
        have gDa' : sa'.heap.get? D = some (lst ys c) := by rw [← hsa]; exact gDa
        have nCa' : sa'.heap.Ns C m := by rw [← hsa]; exact nCa
        have sta : St (i + 1) sa'.heap := by rw [← hsa]; exact st2
        have rDa : RepL (X.add D) sa'.heap (((xs.take i).filter p).map F) ys.toList := by rw [← hsa]; exact RepL.up la _ _ rD
        have hx : xs[i]? = some xs[i] := by simp [hlt]
        have hmem : xs[i] ∈ xs := List.getElem_mem hlt
        generalize xs[i] = x at hx hmem
        have rx : Rep (X.add D) sa'.heap (enc x) v := Rep.up Xa.lists _ _ (Rep.more nD1 _ _ (S.rep _ i v (enc x) (fun _ _ _ _ _ e => e) pv (by simp [hx])))
        refine S.go (i + 1) sa' _ E' v sta ?_
        refine hβ x hmem D _ A sa' v m _ E' hA hE' Ia ⟨hC9, I1.nb nC1⟩ nCa' rx fun s4 m4 k4 sm4 n4 _ b4 => ?_
        have k4' : ∀ b o, b ≠ C → sa'.heap.get? b = some o → s4.heap.get? b = some o := k4
        obtain ⟨oC, eC, tC⟩ := ns_tag nCa'
        have X4 : Ext s₁ s4 := Xa.touch nC1 k4' sm4
        have I4 : Inv w (X.add D) s4 := Ia.touch hC9 eC (soft_of3 tC) (fun m => absurd m hCX) (I1.nb nC1) (fun q => absurd q (I1.frNew nC1)) k4'
        have l4 : Lists (X.add D) sa'.heap s4.heap := lists_but eC (by rw [tC]; decide) k4'
        have g4 := k4' _ _ hDC gDa'
        have st4 := S.W.frame (i + 1) _ s4.heap sta fun b hb o e => k4' b o (fun q => fpC (q ▸ hb)) e
        have r4 := RepL.up l4 _ _ rDa
        have H4 : Has (X.add D) (compEnvC scope (clOf scope.names env.cells []) C env) s4.heap (β x ++ cap ρ scope.names) := has_inner hE H1 nD1 X4 hsc hk rfl hC9 n4 b4
        refine hT x hmem D _ A s4 _ E' hP hA hE' I4 H4 fun s5 I5 X5 => ?_
        have g5 := X5.keep _ _ hD9 (by show (2 : Nat) ≠ 3; decide) g4
        have stE : ∀ {u u' : Shared}, Ext s₁ u → Ext u u' → St (i + 1) u.heap → St (i + 1) u'.heap := fun {u u'} Xu Xuu st => S.W.frame (i + 1) _ u'.heap st fun b hb o e => by
          rcases S.fp b hb with q | ⟨ob, b9, tb, q⟩
          · subst q
            obtain ⟨o', e', _, t'⟩ := S.soft _ _ st
            rw [e'] at e; cases e
            exact Xuu.keep _ _ hI9 (by rw [t']; decide) e'
          · have := Xu.keep _ _ b9 tb q
            rw [this] at e; cases e
            exact Xuu.keep _ _ b9 tb this
        have st5 := stE X4 X5 st4
        have n5 := X5.ns _ _ hC9 n4
        have r5 := RepL.up X5.lists _ _ r4
        have X15 := X4.trans X5
        have hsucc := out_succ (p := p) (F := F) hx
        cases hp : p x with
        | false =>
          refine ⟨xs.length + 1 - (i + 1), by omega, i + 1, ys, c, m4, rfl, hlt, I5, X15, st5, g5, ?_, n5⟩
          rw [hsucc, hp]
          simpa using r5
        | true =>
          simp only [if_true]
          refine hF x hmem hp D _ A s5 _ E' hP hA hE' I5 (H4.up X5) fun u s6 I6 X6 r6 => ?_
          have g6 := X6.keep _ _ hD9 (by show (2 : Nat) ≠ 3; decide) g5
          have X16 := X15.trans X6
          have st6 := stE X15 X6 st5
          have n6 := X6.ns _ _ hC9 n5
          have q6 := RepL.up X6.lists _ _ r5
          have hsz : ys.size ≤ sizeLine := by
            have e1 := q6.len
            simp only [List.length_map, Array.length_toList] at e1
            have e2 : ((xs.take i).filter p).length ≤ (xs.take i).length := List.length_filter_le _ _
            have e3 : (xs.take i).length ≤ xs.length := by rw [List.length_take]; omega
            unfold sizeLine
            omega
          refine wpAny_list_append_plain (hsz := hsz) (items := ys) (by rw [lst_is] at g6; exact ⟨_, g6⟩) fun h7 hl7 hs7 => ?_
          obtain ⟨c7, e7⟩ := hl7
          have k7 : ∀ b o, b ≠ D → s6.heap.get? b = some o → h7.get? b = some o := fun b o hb e => hs7.extBut b o hb e
          have X17 : Ext s₁ { s6 with heap := h7 } := X16.touch nD1 k7 ⟨rfl, rfl⟩
          have I7 : Inv w (X.add D) { s6 with heap := h7 } := I6.touch hD9 g6 rfl (fun _ => ⟨_, e7⟩) (I1.nb nD1) (fun q => absurd q (I1.frNew nD1)) k7
          have l7 : Lists (X.add D) s6.heap h7 := fun b vs n _ hb e => k7 b _ (fun q => hb (q ▸ List.mem_cons_self)) e
          refine ⟨xs.length + 1 - (i + 1), by omega, i + 1, ys.push u, c7, m4, rfl, hlt, I7, X17, ?_, by rw [lst_is]; exact e7, ?_, ns_off n6 fun o e => k7 _ _ (Ne.symm hDC) e⟩
          · exact S.W.frame (i + 1) _ h7 st6 fun b hb o e => k7 b o (fun q => fpD (q ▸ hb)) e
          · rw [hsucc, hp, Array.toList_push]
            exact (RepL.up l7 _ _ q6).app ⟨u, [], rfl, Rep.up l7 _ _ r6, rfl⟩
      · -- the end
        have hin : i = xs.length := by omega
        subst hin
        refine S.W.done s' _ E' (by simpa using stj) fun h2 tk2 k2 => ?_
        have k2' : ∀ b o, b ≠ I → s'.heap.get? b = some o → h2.get? b = some o := fun b o hb e => k2 b o (by simpa using hb) e
        have nC2' := ns_off (h' := h2) nC fun o e => k2' _ _ hCI e
        have Xa : Ext s₁ { s' with heap := h2, toks := tk2 } := Xj.touch nI k2' ⟨rfl, rfl⟩
        have la : Lists (X.add D) s'.heap h2 := lists_but eI (by rw [tI]; decide) k2'
        have gD3 := k2' _ _ hDI gD
        have hIX : I ∉ (X.add D).l := fun m => by
          rcases List.mem_cons.mp m with q | q
          · exact hDI q.symm
          · obtain ⟨_, o, e⟩ := I1.x I q
            rw [nI] at e; cases e
        have Ib : Inv w (X.add D) { s' with heap := h2, toks := tk2 } := Ij.touch hI9 eI sI (fun m => absurd m hIX) (I1.nb nI) (fun q => absurd q (Ij.frTag eI (by rw [tI]; decide))) k2'
        have Ic : Inv w X { s' with heap := h2, toks := tk2 } := ⟨Ib.kt, Ib.n, Ib.k, Ib.r, fun a ha => Ib.x a (List.mem_cons_of_mem _ ha), Ib.bs, Ib.f⟩
        have hDX : D ∉ X.l := fun m => by
          obtain ⟨_, o, e⟩ := I1.x D m
          rw [nD1] at e; cases e
        refine k D C s₁ _ m X1 I1 Ic Xa ⟨D, ys, c, rfl, hD9, hDX, gD3, ?_⟩ nC2' nC1 hC9 (fun m => hCX (List.mem_cons_of_mem _ m))
        have := RepL.less (X := X.add D) (Y := X) (fun a h => List.mem_cons_of_mem _ h) (fun _ _ e _ => e) _ _ (RepL.up la _ _ rD)
        rwa [List.take_length] at this
    · -- the start
      have Ia : Inv w X { s₂ with heap := h₁, toks := s₂.toks + ([] : List (Str × Value)).length } := I2.of old
      exact ⟨Ia.kt, Ia.n, Ia.k, Ia.r, fun a ha => by
        rcases List.mem_cons.mp ha with q | q
        · exact ⟨q ▸ hD9, _, q ▸ hD0⟩
        · exact Ia.x a q, Ia.bs, Ia.f⟩
  exact codeAny_compStart_list (loop _ rfl) (S.W.self 0 _ _ _ (S.W.frame 0 _ _ st0 (fun b _ o e => old b o e)) (loop _ rfl))
theorem ev_comp {elt iter tgt : Expr} {ifs : List Expr} {scope : Scope} {pos : Pos} {ι : Type} {xs : List ι} (enc : ι → V) (p : ι → Bool) (F : ι → V) (β : ι → List (Str × V))
    (hsrc : Src w φ X K ρ tgt iter (xs.map enc)) (hkind : scope.kind = .function) (hsc : scopeOk K ρ scope.names = true) (hs : ∀ env x, foldedSetIterable iter env x = pure x)
    (hβ : ∀ x ∈ xs, ∀ D, Bind w (X.add D) (relab K scope.names) tgt (enc x) (β x))
    (hT : ∀ x ∈ xs, ∀ D, TrF w φ (X.add D) (relab K scope.names) (β x ++ cap ρ scope.names) ifs (p x))
    (hF : ∀ x ∈ xs, p x = true → ∀ D, Ev w φ (X.add D) (relab K scope.names) (β x ++ cap ρ scope.names) elt (F x)) (hb : xs.length ≤ 1000) :
    Ev w φ X K ρ (.ListComp elt [⟨tgt, iter, ifs, 0⟩] scope pos) (.list ((xs.filter p).map F)) := by
  intro env A s Q E hP hA hE I0 H0 k
  rw [eval_ListComp]
  refine comp_core enc p F β hsrc hkind hsc hs hβ hT hF hb none env A s Q E hP hA hE I0 H0 fun D C s₁ s' m X1 I1 I' X' r n hC hC9 hCX => ?_
  refine ⟨m, n, fun h3 hs3 => ?_⟩
  have k3 : ∀ b o, b ≠ C → s'.heap.get? b = some o → h3.get? b = some o := fun b o hb e => hs3.extBut b o hb e
  obtain ⟨oC, eC, tC⟩ := ns_tag n
  have lb : Lists X s'.heap h3 := lists_but eC (by rw [tC]; decide) k3
  exact k (.ref D) _ (I'.touch hC9 eC (soft_of3 tC) (fun m => absurd m hCX) (I1.nb hC) (fun q => absurd q (I1.frNew hC)) k3) (X1.trans (X'.touch hC k3 ⟨rfl, rfl⟩)) (Rep.up lb _ _ r)
end Vl
end
section
open PySem PySem.W PySem.W.X PyProof.Rows
set_option Elab.async false
set_option maxRecDepth 100000
set_option maxHeartbeats 2000000
set_option linter.unusedVariables false
namespace Vl
open Mine
variable {w : World} {X : Av} {φ : Around → Prop} {K : List (Str × NameKind)} {ρ : List (Str × V)}
/-- what a statement keeps: all but frames' and cells' contents -/
structure Soft (s s' : Shared) : Prop where
  keep : ∀ b o, 95 ≤ b → tagOf o ≠ 3 → tagOf o ≠ 6 → s.heap.get? b = some o → s'.heap.get? b = some o
theorem Soft.refl (s : Shared) : Soft s s := ⟨fun _ _ _ _ _ e => e⟩
theorem Soft.trans {s s' s'' : Shared} (a : Soft s s') (b : Soft s' s'') : Soft s s'' := ⟨fun x o h t u e => b.keep x o h t u (a.keep x o h t u e)⟩
theorem Ext.soft {s s' : Shared} (x : Ext s s') : Soft s s' := ⟨fun b o h t _ e => x.keep b o h t e⟩
/-- a frame that runs -/
structure Frm (w : World) (X : Av) (env : Env) (s₀ s : Shared) (ρ : List (Str × V)) : Prop where
  I : Inv w X s
  H : Has X env s.heap ρ
  ext : Ext s₀ s
  hi : 95 ≤ s₀.heap.objs.size
  ox : (∀ a ∈ X.l, a ≠ env.locals ∧ ∀ x c, env.cells.lookup x = some c → a ≠ c) ∧ ∀ b, s₀.heap.get? b = none → X.B b = none
  loc : s₀.heap.objs.size ≤ env.locals
  ns : ∃ m, s.heap.Ns env.locals m
  cell : ∀ x c, env.cells.lookup x = some c → s₀.heap.objs.size ≤ c ∧ c ≠ env.locals ∧ ∃ v, s.heap.IsCell c v
  apart : ∀ x y c, env.cells.lookup x = some c → env.cells.lookup y = some c → x = y
theorem Frm.up {env : Env} {s₀ s s' : Shared} (F : Frm w X env s₀ s ρ) (I' : Inv w X s') (x : Ext s s') : Frm w X env s₀ s' ρ where
  I := I'
  H := F.H.up x
  ext := F.ext.trans x
  hi := F.hi
  ox := F.ox
  loc := F.loc
  ns := let ⟨m, n⟩ := F.ns; ⟨m, x.ns _ _ (Nat.le_trans F.hi F.loc) n⟩
  cell := fun y c e => let ⟨h1, h2, v, o, h3, h4⟩ := F.cell y c e; ⟨h1, h2, v, o, x.keep _ _ (Nat.le_trans F.hi h1) (by unfold tagOf; rw [h4]; show (6 : Nat) ≠ 3; decide) h3, h4⟩
  apart := F.apart
theorem Frm.less {env : Env} {s₀ s : Shared} {ρ' : List (Str × V)} (F : Frm w X env s₀ s ρ) (h : ∀ y v, ρ'.lookup y = some v → ρ.lookup y = some v) : Frm w X env s₀ s ρ' := { F with H := fun x v e => F.H x v (h x v e) }
theorem get_none {h : Heap} {a : Addr} (l : h.objs.size ≤ a) : h.get? a = none := by
  cases e : h.get? a with
  | none => rfl
  | some o => exact absurd (Heap.lt_size e) (Nat.not_lt.mpr l)
theorem soft_of6 {o : Obj} (t : tagOf o = 6) : softO o = true := by
  unfold tagOf at t
  unfold softO
  cases h : o.data <;> rw [h] at t <;> first | rfl | (simp at t)
/-- a frame's own object turned -/
theorem Frm.own {env : Env} {s₀ s s' : Shared} (F : Frm w X env s₀ s ρ) {a : Addr} {o : Obj} (ha : s₀.heap.objs.size ≤ a) (hx : a ∉ X.l) (e : s.heap.get? a = some o) (t : tagOf o = 3 ∨ tagOf o = 6) (nf : tagOf o = 3 → ∃ o', s'.heap.get? a = some o' ∧ tagOf o' = 3) (k : ∀ b o, b ≠ a → s.heap.get? b = some o → s'.heap.get? b = some o) (sm : Same s s') :
    Inv w X s' ∧ Ext s₀ s' ∧ Lists X s.heap s'.heap ∧ Soft s s' := by
  have so : softO o = true := t.elim soft_of3 soft_of6
  refine ⟨F.I.touch (Nat.le_trans F.hi ha) e so (fun m => absurd m hx) (F.ox.2 _ (get_none ha)) (fun q => nf (Decidable.byContradiction fun n => F.I.frTag e n q)) k, F.ext.touch (get_none ha) k sm, lists_but e (by rcases t with t | t <;> rw [t] <;> decide) k, ⟨fun b o' h9 t3 t6 eb => k b o' (fun q => ?_) eb⟩⟩
  subst q
  rw [e] at eb; cases eb
  exact t.elim t3 t6
theorem st_name {env : Env} {A : Around} {s₀ s : Shared} {x : Str} {v : V} {u : Value} {Q : Unit → Shared → Prop} {E : Value → Shared → Prop} (hE : EnvIs K env) (F : Frm w X env s₀ s ρ) (hk : K.lookup x = some .local) (r : Rep X s.heap v u)
    (k : ∀ s', Frm w X env s₀ s' ((x, v) :: ρ) → Soft s s' → (∀ b o, b ≠ env.locals → s.heap.get? b = some o → s'.heap.get? b = some o) → Same s s' → Q () s') : wpAny (model prg w) A (storeName env x u) Q E s := by
  obtain ⟨m, n⟩ := F.ns
  refine wpAny_storeName_local ((hE.k x).trans hk) n (fun h' n' sb => ?_) (by rw [hE.kind]; rfl)
  obtain ⟨o, e, t⟩ := ns_tag n
  have kp : ∀ b o, b ≠ env.locals → s.heap.get? b = some o → h'.get? b = some o := fun b o hb e => sb.extBut b o hb e
  obtain ⟨I', X', l', S'⟩ := F.own (s' := { s with heap := h', toks := s.toks + 1 }) F.loc (fun m => (F.ox.1 _ m).1 rfl) e (.inl t) (fun _ => ns_tag n') kp ⟨rfl, rfl⟩
  have cellK : ∀ c v, c ≠ env.locals → s.heap.IsCell c v → h'.IsCell c v := fun c v hc ⟨o, ho, hd⟩ => ⟨o, kp c o hc ho, hd⟩
  refine k _ ⟨I', fun y b hy => ?_, X', F.hi, F.ox, F.loc, ⟨_, n'⟩, fun y c ec => let ⟨h1, h2, z, hz⟩ := F.cell y c ec; ⟨h1, h2, z, cellK c z h2 hz⟩, F.apart⟩ S' kp ⟨rfl, rfl⟩
  rw [List.lookup_cons] at hy
  cases q : y == x with
  | true =>
    rw [q] at hy; cases hy
    have : y = x := by simpa using q
    subst this
    exact ⟨u, Rep.up l' _ _ r, .inl ⟨(hE.k y).trans hk, Nat.le_trans F.hi F.loc, _, n', if_pos rfl⟩⟩
  | false =>
    rw [q] at hy
    have hyx : y ≠ x := by simpa using q
    obtain ⟨z, hz, bz⟩ := F.H y b hy
    refine ⟨z, Rep.up l' _ _ hz, ?_⟩
    rcases bz with ⟨a, h9, m', nm, em⟩ | ⟨a, c, ec, h9, hc⟩
    · refine .inl ⟨a, h9, _, n', ?_⟩
      rw [if_neg hyx]
      have : m' y = m y := by
        obtain ⟨o1, es1, ep1, e1, d1, _, f1⟩ := nm
        obtain ⟨o2, es2, ep2, e2, d2, _, f2⟩ := n
        rw [e1] at e2; cases e2
        rw [d1] at d2; cases d2
        rw [← f1, ← f2]
      rw [← this]; exact em
    · exact .inr ⟨a, c, ec, h9, cellK c _ (F.cell y c ec).2.1 hc⟩
theorem st_cell {env : Env} {A : Around} {s₀ s : Shared} {x : Str} {v : V} {u : Value} {c : Addr} {Q : Unit → Shared → Prop} {E : Value → Shared → Prop} (hE : EnvIs K env) (F : Frm w X env s₀ s ρ) (hk : K.lookup x = some .cell) (hc : env.cells.lookup x = some c) (r : Rep X s.heap v u)
    (k : ∀ s', Frm w X env s₀ s' ((x, v) :: ρ) → Soft s s' → Q () s') : wpAny (model prg w) A (storeName env x u) Q E s := by
  obtain ⟨hlo, hne, v0, hv⟩ := F.cell x c hc
  refine wpAny_storeName_cell hE.kind ((hE.k x).trans hk) hc hv fun h' hc' sb => ?_
  have kp : ∀ b o, b ≠ c → s.heap.get? b = some o → h'.get? b = some o := fun b o hb e => sb.extBut b o hb e
  obtain ⟨o, e, d⟩ := hv
  have t : tagOf o = 6 := by unfold tagOf; rw [d]
  obtain ⟨I', X', l', S'⟩ := F.own (s' := { s with heap := h' }) hlo (fun m => (F.ox.1 _ m).2 _ _ hc rfl) e (.inr t) (fun q => by rw [t] at q; cases q) kp ⟨rfl, rfl⟩
  have nsK : ∀ m, s.heap.Ns env.locals m → h'.Ns env.locals m := fun m n => ns_off n fun o e => kp _ _ (Ne.symm hne) e
  refine k _ ⟨I', fun y b hy => ?_, X', F.hi, F.ox, F.loc, let ⟨m, n⟩ := F.ns; ⟨m, nsK m n⟩, fun y c' ec => ?_, F.apart⟩ S'
  · rw [List.lookup_cons] at hy
    cases q : y == x with
    | true =>
      rw [q] at hy; cases hy
      have : y = x := by simpa using q
      subst this
      exact ⟨u, Rep.up l' _ _ r, .inr ⟨.inl ((hE.k y).trans hk), c, hc, Nat.le_trans F.hi hlo, hc'⟩⟩
    | false =>
      rw [q] at hy
      have hyx : y ≠ x := by simpa using q
      obtain ⟨z, hz, bz⟩ := F.H y b hy
      refine ⟨z, Rep.up l' _ _ hz, ?_⟩
      rcases bz with ⟨a, h9, m', nm, em⟩ | ⟨a, c', ec, h9, o', ho', hd'⟩
      · exact .inl ⟨a, h9, m', nsK m' nm, em⟩
      · exact .inr ⟨a, c', ec, h9, o', kp c' o' (fun q => hyx (F.apart y x c' ec (q ▸ hc))) ho', hd'⟩
  · obtain ⟨h1, h2, z, o', ho', hd'⟩ := F.cell y c' ec
    by_cases q : c' = c
    · subst q; exact ⟨h1, h2, _, hc'⟩
    · exact ⟨h1, h2, z, o', kp c' o' q ho', hd'⟩
end Vl
end
section
open PySem PySem.W PySem.W.X PyProof.Rows
set_option Elab.async false
set_option maxRecDepth 100000
set_option maxHeartbeats 2000000
set_option linter.unusedVariables false
namespace Vl
open Mine
variable {w : World} {X : Av} {φ : Around → Prop} {K : List (Str × NameKind)} {ρ : List (Str × V)}
/-- an environment's cells are there -/
def CellsIn (K : List (Str × NameKind)) (env : Env) : Prop := ∀ x, K.lookup x = some .cell → ∃ c, env.cells.lookup x = some c
/-- the statements return v -/
def Ret (w : World) (φ : Around → Prop) (X : Av) (K : List (Str × NameKind)) (ρ : List (Str × V)) (ss : List Stmt) (v : V) : Prop :=
  ∀ (env : Env) (A : Around) (s₀ s : Shared) (Q : Flow → Shared → Prop) (E : Value → Shared → Prop), φ A → AOk A → EnvIs K env → CellsIn K env → Frm w X env s₀ s ρ →
    (∀ u s', Inv w X s' → Ext s₀ s' → Rep X s'.heap v u → Q (.ret u) s') → wpAny (model prg w) A (execs ss env) Q E s
/-- a statement passes on, with these names bound -/
def Thru (w : World) (φ : Around → Prop) (X : Av) (K : List (Str × NameKind)) (ρ : List (Str × V)) (st : Stmt) (ρ' : List (Str × V)) : Prop :=
  ∀ (env : Env) (A : Around) (s₀ s : Shared) (Q : Flow → Shared → Prop) (E : Value → Shared → Prop), φ A → AOk A → EnvIs K env → CellsIn K env → Frm w X env s₀ s ρ →
    (∀ s', Frm w X env s₀ s' ρ' → Soft s s' → Q .next s') → wpAny (model prg w) A (exec st env) Q E s
def ThruL (w : World) (φ : Around → Prop) (X : Av) (K : List (Str × NameKind)) (ρ : List (Str × V)) (ss : List Stmt) (ρ' : List (Str × V)) : Prop :=
  ∀ (env : Env) (A : Around) (s₀ s : Shared) (Q : Flow → Shared → Prop) (E : Value → Shared → Prop), φ A → AOk A → EnvIs K env → CellsIn K env → Frm w X env s₀ s ρ →
    (∀ s', Frm w X env s₀ s' ρ' → Soft s s' → Q .next s') → wpAny (model prg w) A (execs ss env) Q E s
theorem thru_nil : ThruL w φ X K ρ [] ρ := fun env A s₀ s Q E hP hA hE hC F k => wpAny_execs_nil (k s F (Soft.refl s))
theorem thru_cons {st : Stmt} {ss : List Stmt} {ρ₁ ρ₂ : List (Str × V)} (h : Thru w φ X K ρ st ρ₁) (h' : ThruL w φ X K ρ₁ ss ρ₂) : ThruL w φ X K ρ (st :: ss) ρ₂ := fun env A s₀ s Q E hP hA hE hC F k =>
  wpAny_execs_cons (h env A s₀ s _ E hP hA hE hC F fun s1 F1 S1 => h' env A s₀ s1 Q E hP hA hE hC F1 fun s2 F2 S2 => k s2 F2 (S1.trans S2))
theorem ret_cons {st : Stmt} {ss : List Stmt} {ρ₁ : List (Str × V)} {v : V} (h : Thru w φ X K ρ st ρ₁) (h' : Ret w φ X K ρ₁ ss v) : Ret w φ X K ρ (st :: ss) v := fun env A s₀ s Q E hP hA hE hC F k =>
  wpAny_execs_cons (h env A s₀ s _ E hP hA hE hC F fun s1 F1 S1 => h' env A s₀ s1 Q E hP hA hE hC F1 k)
theorem ret_ret {e : Expr} {pos : Pos} {ss : List Stmt} {v : V} (h : Ev w φ X K ρ e v) : Ret w φ X K ρ (.Return (some e) pos :: ss) v := fun env A s₀ s Q E hP hA hE hC F k =>
  wpAny_execs_cons (wpAny_Return_some (h env A s _ E hP hA hE F.I F.H fun u s1 I1 X1 r1 => k u s1 I1 (F.ext.trans X1) r1))
/-- an if whose body returns -/
theorem ret_if {t : Expr} {body orelse : List Stmt} {pos : Pos} {ss : List Stmt} {c : Bool} {v : V} (h : Tr w φ X K ρ t c) (h1 : c = true → Ret w φ X K ρ body v) (ho : orelse = []) (h2 : c = false → Ret w φ X K ρ ss v) : Ret w φ X K ρ (.If t body orelse pos :: ss) v := by
  intro env A s₀ s Q E hP hA hE hC F k
  subst ho
  refine wpAny_execs_cons (wpAny_If (h env A s _ E hP hA hE F.I F.H fun s1 I1 X1 => ?_))
  cases c with
  | true => exact h1 rfl env A s₀ s1 _ E hP hA hE hC (F.up I1 X1) fun u s2 I2 X2 r2 => k u s2 I2 X2 r2
  | false => exact wpAny_execs_nil (h2 rfl env A s₀ s1 Q E hP hA hE hC (F.up I1 X1) k)
theorem thru_if {t : Expr} {body orelse : List Stmt} {pos : Pos} {c : Bool} {ρ' : List (Str × V)} (h : Tr w φ X K ρ t c) (h1 : c = true → ThruL w φ X K ρ body ρ') (h2 : c = false → ThruL w φ X K ρ orelse ρ') : Thru w φ X K ρ (.If t body orelse pos) ρ' := by
  intro env A s₀ s Q E hP hA hE hC F k
  refine wpAny_If (h env A s _ E hP hA hE F.I F.H fun s1 I1 X1 => ?_)
  cases c with
  | true => exact h1 rfl env A s₀ s1 Q E hP hA hE hC (F.up I1 X1) fun s2 F2 S2 => k s2 F2 (X1.soft.trans S2)
  | false => exact h2 rfl env A s₀ s1 Q E hP hA hE hC (F.up I1 X1) fun s2 F2 S2 => k s2 F2 (X1.soft.trans S2)
/-- a name stored, local or cell -/
theorem st_any {env : Env} {A : Around} {s₀ s : Shared} {x : Str} {v : V} {u : Value} {Q : Unit → Shared → Prop} {E : Value → Shared → Prop} (hE : EnvIs K env) (hC : CellsIn K env) (F : Frm w X env s₀ s ρ) (hk : (K.lookup x == some .local || K.lookup x == some .cell) = true) (r : Rep X s.heap v u)
    (k : ∀ s', Frm w X env s₀ s' ((x, v) :: ρ) → Soft s s' → Q () s') : wpAny (model prg w) A (storeName env x u) Q E s := by
  rcases (Bool.or_eq_true _ _).mp hk with h | h
  · exact st_name hE F (by simpa using h) r fun s' F' S' _ _ => k s' F' S'
  · have h' : K.lookup x = some .cell := by simpa using h
    obtain ⟨c, hc⟩ := hC x h'
    exact st_cell hE F h' hc r k
theorem thru_assign {x : Str} {px pos : Pos} {e : Expr} {v : V} (h : Ev w φ X K ρ e v) (hk : (K.lookup x == some .local || K.lookup x == some .cell) = true) (hs : ∀ env, EnvIs K env → swapsWith e (some (.Name x px)) pos.line env = pure false) :
    Thru w φ X K ρ (.Assign [.Name x px] e pos) ((x, v) :: ρ) := by
  intro env A s₀ s Q E hP hA hE hC F k
  refine wpAny_Assign_Name (h env A s _ E hP hA hE F.I F.H fun u s1 I1 X1 r1 => ?_) (hs env hE)
  exact st_any hE hC (F.up I1 X1) hk r1 fun s2 F2 S2 => k s2 F2 (X1.soft.trans S2)
theorem swaps_no {e : Expr} {x : Str} {px : Pos} {line : Nat} (h : (match e with | .ListComp .. | .SetComp .. | .DictComp .. => false | _ => true) = true) (env : Env) : swapsWith e (some (.Name x px)) line env = pure false := by
  cases e <;> first | rfl | (simp at h)
/-- a comprehension assigned to a name of the frame's own: its names go after the store -/
theorem thru_comp {x : Str} {px pos cpos : Pos} {elt iter tgt : Expr} {ifs : List Expr} {scope : Scope} {ι : Type} {xs : List ι} (enc : ι → V) (p : ι → Bool) (F : ι → V) (β : ι → List (Str × V))
    (hk : K.lookup x = some .local) (hsw : ∀ env, EnvIs K env → swapsWith (.ListComp elt [⟨tgt, iter, ifs, 0⟩] scope cpos) (some (.Name x px)) pos.line env = pure true)
    (hsrc : Src w φ X K ρ tgt iter (xs.map enc)) (hkind : scope.kind = .function) (hsc : scopeOk K ρ scope.names = true) (hs : ∀ env x, foldedSetIterable iter env x = pure x)
    (hβ : ∀ x ∈ xs, ∀ D, Bind w (X.add D) (relab K scope.names) tgt (enc x) (β x))
    (hT : ∀ x ∈ xs, ∀ D, TrF w φ (X.add D) (relab K scope.names) (β x ++ cap ρ scope.names) ifs (p x))
    (hF : ∀ x ∈ xs, p x = true → ∀ D, Ev w φ (X.add D) (relab K scope.names) (β x ++ cap ρ scope.names) elt (F x)) (hb : xs.length ≤ 1000) :
    Thru w φ X K ρ (.Assign [.Name x px] (.ListComp elt [⟨tgt, iter, ifs, 0⟩] scope cpos) pos) ((x, .list ((xs.filter p).map F)) :: ρ) := by
  intro env A s₀ s Q E hP hA hE hC Fr k
  rw [exec_Assign_Name_used _ _ _ _ (hsw env hE)]
  refine wpAny_bind (wpAny_standAt (wpAny_bind ?_))
  show wpAny _ A (do let _ ← comprehension (.ListComp elt [⟨tgt, iter, ifs, 0⟩] scope cpos) scope env (firstIterPos [⟨tgt, iter, ifs, 0⟩] cpos) (newList []) false (eval iter env) (some (assign (.Name x px) env))) _ _ s
  refine wpAny_bind (comp_core enc p F β hsrc hkind hsc hs hβ hT hF hb _ env A s _ E hP hA hE Fr.I Fr.H fun D C s₁ s' m X1 I1 I' X' r n hC1 hC9 hCX => ?_)
  show wpAny _ A (assign (.Name x px) env (.ref D)) _ _ s'
  have F' := Fr.up I' (X1.trans X')
  have hCL : C ≠ env.locals := by
    rintro rfl
    obtain ⟨m', n'⟩ := (Fr.up I1 X1).ns
    obtain ⟨o, _, _, e, _⟩ := n'
    rw [hC1] at e; cases e
  have hCs₀ : s₀.heap.get? C = none := by
    cases e : s₀.heap.get? C with
    | none => rfl
    | some o =>
      obtain ⟨o', e'⟩ := (Fr.up I1 X1).ext.al C o e
      rw [hC1] at e'; cases e'
  refine wpAny_assign_Name (st_name hE F' hk r fun s2 F2 S2 kp2 sm2 => ?_)
  have n2 : s2.heap.Ns C m := ns_off n fun o e => kp2 _ _ hCL e
  refine ⟨m, n2, fun h3 hs3 => wpAny_pure ?_⟩
  have k3 : ∀ b o, b ≠ C → s2.heap.get? b = some o → h3.get? b = some o := fun b o hb e => hs3.extBut b o hb e
  obtain ⟨oC, eC, tC⟩ := ns_tag n2
  have l3 : Lists X s2.heap h3 := lists_but eC (by rw [tC]; decide) k3
  have nsK : ∀ m, s2.heap.Ns env.locals m → h3.Ns env.locals m := fun m n => ns_off n fun o e => k3 _ _ (Ne.symm hCL) e
  have ceK : ∀ c v, s2.heap.IsCell c v → h3.IsCell c v := fun c v ⟨o, ho, hd⟩ => ⟨o, k3 c o (fun q => by
    subst q
    rw [eC] at ho; cases ho
    unfold tagOf at tC; rw [hd] at tC; exact absurd tC (by show (6 : Nat) ≠ 3; decide)) ho, hd⟩
  refine wpAny_pure (k { s2 with heap := h3 } ⟨F2.I.touch hC9 eC (soft_of3 tC) (fun m => absurd m hCX) (F2.ox.2 _ hCs₀) (fun q => absurd q (I1.frNew hC1)) k3, fun y b hy => ?_, F2.ext.touch hCs₀ k3 ⟨rfl, rfl⟩, F2.hi, F2.ox, F2.loc, let ⟨m, n⟩ := F2.ns; ⟨m, nsK m n⟩, fun y c ec => let ⟨h1, h2, z, hz⟩ := F2.cell y c ec; ⟨h1, h2, z, ceK c z hz⟩, F2.apart⟩ ⟨fun b o h9 t3 t6 e => ?_⟩)
  · obtain ⟨z, hz, bz⟩ := F2.H y b hy
    refine ⟨z, Rep.up l3 _ _ hz, ?_⟩
    rcases bz with ⟨a, h9, m', nm, em⟩ | ⟨a, c, ec, h9, hc⟩
    · exact .inl ⟨a, h9, m', nsK m' nm, em⟩
    · exact .inr ⟨a, c, ec, h9, ceK c _ hc⟩
  · refine k3 b o (fun q => ?_) (S2.keep b o h9 t3 t6 ((X1.trans X').keep b o h9 t3 e))
    subst q
    obtain ⟨o', e'⟩ := X1.al b o e
    rw [hC1] at e'; cases e'
/-- two names out of a list of two -/
theorem thru_pair {x y : Str} {px py tpos pos : Pos} {c : Nat} {e : Expr} {a b : V} (h : Ev w φ X K ρ e (.list [a, b])) (hx : K.lookup x = some .local) (hy : K.lookup y = some .local) (hxy : (y == x) = false)
    (hs : ∀ env, swapsWithSole [.Tuple [.Name x px, .Name y py] c tpos] e pos.line env = pure false) (hw : ∀ env, swappedStores [.Tuple [.Name x px, .Name y py] c tpos] e env = pure none) :
    Thru w φ X K ρ (.Assign [.Tuple [.Name x px, .Name y py] c tpos] e pos) ((y, b) :: (x, a) :: ρ) := by
  intro env A s₀ s Q E hP hA hE hC F k
  refine Assign_Tuple (h env A s _ E hP hA hE F.I F.H fun u s1 I1 X1 r1 => ?_) (hs env) (hw env)
  obtain ⟨t, vs, n, rfl, t9, tx, g, q⟩ := r1
  obtain ⟨v1, v2, ev, r1, r2⟩ := two_arg q
  have sz : vs.size = 2 := by have := congrArg List.length ev; simpa using this
  have F1 := F.up I1 X1
  rw [arm_assign_Tuple]
  refine wpAny_bind (wpAny_standAt ?_)
  unfold unpack
  refine wpAny_bind (wpAny_holding ?_)
  show wpAny _ A (unpackItems (.ref t) 2 none) _ E s1
  rw [← sz]
  refine unpack_list hA.hd (isList_of g) fun h2 k2 => ?_
  have kk : ∀ b o, s1.heap.get? b = some o → h2.get? b = some o := fun b o e => k2 b o (not_new e) e
  have X2 : Ext s1 { s1 with heap := h2 } := Ext.of kk ⟨rfl, rfl⟩
  have F2 : Frm w X env s₀ { s1 with heap := h2 } ρ := F1.up (I1.of kk) X2
  rw [ev]
  refine wpAny_bind (wpAny_holding (wpAny_assign_Name (st_name hE F2 hx (Rep.up X2.lists _ _ r1) fun s3 F3 S3 kp3 sm3 => ?_)))
  have l3 : Lists X h2 s3.heap := by
    obtain ⟨m, n⟩ := F2.ns
    obtain ⟨o, e, t⟩ := ns_tag n
    exact lists_but e (by rw [t]; decide) kp3
  refine wpAny_bind (wpAny_holding (wpAny_assign_Name (st_name hE F3 hy (Rep.up l3 _ _ (Rep.up X2.lists _ _ r2)) fun s4 F4 S4 kp4 sm4 => wpAny_pure ?_)))
  exact k s4 F4 (((X1.trans X2).soft.trans S3).trans S4)
end Vl
end
section
open PySem PySem.W PySem.W.X PyProof.Rows
set_option Elab.async false
set_option maxRecDepth 100000
set_option maxHeartbeats 2000000
set_option linter.unusedVariables false
namespace Vl
open Mine
variable {w : World} {X : Av} {φ : Around → Prop} {K : List (Str × NameKind)} {ρ : List (Str × V)}
/-- an iterator turned -/
theorem Frm.iter {env : Env} {s₀ s s' : Shared} (F : Frm w X env s₀ s ρ) {a : Addr} {o : Obj} (h9 : 95 ≤ a) (ha : s₀.heap.get? a = none) (hx : a ∉ X.l) (e : s.heap.get? a = some o) (so : softO o = true) (t : tagOf o = 9) (k : ∀ b o, b ≠ a → s.heap.get? b = some o → s'.heap.get? b = some o) (sm : Same s s') : Frm w X env s₀ s' ρ := by
  have l : Lists X s.heap s'.heap := lists_but e (by rw [t]; decide) k
  have nsK : ∀ L m, s.heap.Ns L m → s'.heap.Ns L m := fun L m n => ns_off n fun o' e' => k _ _ (fun q => by
    subst q
    obtain ⟨o2, e2, t2⟩ := ns_tag n
    rw [e] at e2; cases e2
    rw [t] at t2; exact absurd t2 (by decide)) e'
  have ceK : ∀ c v, s.heap.IsCell c v → s'.heap.IsCell c v := fun c v ⟨o', ho, hd⟩ => ⟨o', k c o' (fun q => by
    subst q
    rw [e] at ho; cases ho
    unfold tagOf at t; rw [hd] at t; exact absurd t (by show (6 : Nat) ≠ 9; decide)) ho, hd⟩
  refine ⟨F.I.touch h9 e so (fun m => absurd m hx) (F.ox.2 _ ha) (fun q => absurd q (F.I.frTag e (by rw [t]; decide))) k, fun y b hy => ?_, F.ext.touch ha k sm, F.hi, F.ox, F.loc, let ⟨m, n⟩ := F.ns; ⟨m, nsK _ m n⟩, fun y c ec => let ⟨h1, h2, z, hz⟩ := F.cell y c ec; ⟨h1, h2, z, ceK c z hz⟩, F.apart⟩
  obtain ⟨z, hz, bz⟩ := F.H y b hy
  refine ⟨z, Rep.up l _ _ hz, ?_⟩
  rcases bz with ⟨a, h9, m', nm, em⟩ | ⟨a, c, ec, h9, hc⟩
  · exact .inl ⟨a, h9, m', nsK _ m' nm, em⟩
  · exact .inr ⟨a, c, ec, h9, ceK c _ hc⟩
theorem Soft.touch {s s' s'' : Shared} (x : Soft s s') {a : Addr} (h : s.heap.get? a = none) (k : ∀ b o, b ≠ a → s'.heap.get? b = some o → s''.heap.get? b = some o) : Soft s s'' :=
  ⟨fun b o h9 t3 t6 e => k b o (fun q => by subst q; rw [h] at e; cases e) (x.keep b o h9 t3 t6 e)⟩
theorem thru_for {x : Str} {px pos : Pos} {iter : Expr} {body : List Stmt} {xs : List V} (h : Ev w φ X K ρ iter (.list xs)) (hk : (K.lookup x == some .local || K.lookup x == some .cell) = true) (hs : ∀ env x, foldedSetIterable iter env x = pure x)
    (hb : ∀ v ∈ xs, ∃ ρ', ThruL w φ X K ((x, v) :: ρ) body ρ' ∧ ∀ y u, ρ.lookup y = some u → ρ'.lookup y = some u) : Thru w φ X K ρ (.For (.Name x px) iter body [] pos) ρ := by
  intro env A s₀ s Q E hP hA hE hC F k
  refine wpAny_For (h env A s _ E hP hA hE F.I F.H fun u s1 I1 X1 r1 => ?_) (hs env)
  obtain ⟨a, vs, n, rfl, a9, ax, g, q⟩ := r1
  have F1 := F.up I1 X1
  have sz : vs.size = xs.length := by rw [← q.len]; simp
  refine wpAny_pyIter_list (isList_of g) ?_
  have kp : ∀ b o, s1.heap.get? b = some o → (s1.heap.push { cls := .type "list_iterator", data := .fields #[.ref a, .int 0 0] }).get? b = some o := fun b o e => Heap.get?_push_of_some _ e
  have hit : (s1.heap.push { cls := .type "list_iterator", data := .fields #[.ref a, .int 0 0] }).IsListIter s1.heap.objs.size a 0 := ⟨_, Heap.get?_push_size _ rfl, rfl, rfl⟩
  have nI := get_size (h := s1.heap)
  have hI9 := I1.high
  have X2 : Ext s1 { s1 with heap := s1.heap.push { cls := .type "list_iterator", data := .fields #[.ref a, .int 0 0] } } := Ext.of kp ⟨rfl, rfl⟩
  have F2 := F1.up (I1.of (s' := { s1 with heap := s1.heap.push { cls := .type "list_iterator", data := .fields #[.ref a, .int 0 0] } }) kp) X2
  have S2 := (X1.trans X2).soft
  have g2 := kp _ _ g
  have hIX := I1.new
  generalize s1.heap.objs.size = I at nI hI9 hIX hit ⊢
  have nIs₀ : s₀.heap.get? I = none := by
    cases e : s₀.heap.get? I with
    | none => rfl
    | some o => obtain ⟨o', e'⟩ := F1.ext.al I o e; rw [nI] at e'; cases e'
  have nIs : s.heap.get? I = none := by
    cases e : s.heap.get? I with
    | none => rfl
    | some o => obtain ⟨o', e'⟩ := X1.al I o e; rw [nI] at e'; cases e'
  refine codeAny_forLoop (fun c s' => ∃ i, c = xs.length + 1 - i ∧ i ≤ xs.length ∧ Frm w X env s₀ s' ρ ∧ Soft s s' ∧ s'.heap.IsListIter I a i ∧ s'.heap.get? a = some (lst vs n) ∧ RepL X s'.heap xs vs.toList) ?_ (xs.length + 1)
    ⟨0, rfl, Nat.zero_le _, F2, S2, hit, g2, RepL.up X2.lists _ _ q⟩
  rintro c s' ⟨i, rfl, hi, Fj, Sj, hitj, gj, qj⟩
  have iterSoft : ∀ {h : Heap} {i}, h.IsListIter I a i → ∃ o, h.get? I = some o ∧ softO o = true ∧ tagOf o = 9 := fun ⟨o, ho, hc, hd⟩ => ⟨o, ho, by unfold softO; rw [hd]; rfl, by unfold tagOf; rw [hd]⟩
  obtain ⟨oI, eI, sI, tI⟩ := iterSoft hitj
  have haI : a ≠ I := by
    rintro rfl
    rw [gj] at eI; cases eI
    exact absurd tI (by show (2 : Nat) ≠ 9; decide)
  cases hv : vs[i]? with
  | none =>
    refine wpAny_pyNext_list_end hA.hd hitj (isList_of gj) hv fun h2 k2 => wpAny_execs_nil ?_
    have k2' : ∀ b o, b ≠ I → s'.heap.get? b = some o → h2.get? b = some o := fun b o hb e => k2 b o hb e
    exact k _ (Fj.iter hI9 nIs₀ hIX eI sI tI k2' ⟨rfl, rfl⟩) (Sj.touch nIs k2')
  | some v =>
    have hlt : i < xs.length := by have := (Array.getElem?_eq_some_iff.mp hv).1; omega
    have hx : xs[i]? = some xs[i] := by simp [hlt]
    have hmem : xs[i] ∈ xs := List.getElem_mem hlt
    generalize xs[i] = z at hx hmem
    refine wpAny_pyNext_list_item hitj (isList_of gj) hv fun h2 hit2 sb2 => ?_
    have k2' : ∀ b o, b ≠ I → s'.heap.get? b = some o → h2.get? b = some o := fun b o hb e => sb2.extBut b o hb e
    have Fa : Frm w X env s₀ { s' with heap := h2 } ρ := Fj.iter hI9 nIs₀ hIX eI sI tI k2' ⟨rfl, rfl⟩
    have Sa : Soft s { s' with heap := h2 } := Sj.touch nIs k2'
    have la : Lists X s'.heap h2 := lists_but eI (by rw [tI]; decide) k2'
    have qa := RepL.up la _ _ qj
    have ga := k2' _ _ haI gj
    have rv : Rep X h2 z v := by
      obtain ⟨v', e', r'⟩ := qa.at i z hx
      have : vs.toList[i]? = some v := by simpa using hv
      rw [this] at e'; cases e'; exact r'
    obtain ⟨ρ', hbody, hless⟩ := hb z hmem
    refine wpAny_assign_Name (st_any hE hC Fa hk rv fun s3 F3 S3 => ?_)
    refine hbody env A s₀ s3 _ _ hP hA hE hC F3 fun s4 F4 S4 => ?_
    have S24 : Soft { s' with heap := h2 } s4 := S3.trans S4
    obtain ⟨oI2, eI2, sI2, tI2⟩ := iterSoft hit2
    refine ⟨xs.length + 1 - (i + 1), by omega, i + 1, rfl, hlt, F4.less hless, Sa.trans S24, ?_, S24.keep _ _ a9 (by show (2 : Nat) ≠ 3; decide) (by show (2 : Nat) ≠ 6; decide) ga, ?_⟩
    · obtain ⟨o, ho, hc, hd⟩ := hit2
      exact ⟨o, S24.keep _ _ hI9 (by unfold tagOf; rw [hd]; show (9 : Nat) ≠ 3; decide) (by unfold tagOf; rw [hd]; show (9 : Nat) ≠ 6; decide) ho, hc, hd⟩
    · exact RepL.up (fun b vs n h9 _ e => S24.keep b _ h9 (by show (2 : Nat) ≠ 3; decide) (by show (2 : Nat) ≠ 6; decide) e) _ _ qa
end Vl
end
section
open PySem PySem.W PySem.W.X PyProof.Rows
set_option Elab.async false
set_option maxRecDepth 100000
set_option maxHeartbeats 2000000
set_option linter.unusedVariables false
namespace Vl
open Mine
variable {w : World} {X : Av} {φ : Around → Prop} {K : List (Str × NameKind)} {ρ : List (Str × V)}
theorem bindL_get (kd : Str → Option NameKind) : ∀ (binds : List (Str × Value)) (m : Str → Option Value) (p : Str), (binds.map (·.1)).Nodup → kd p = some .local →
    bindL kd binds m p = (match binds.lookup p with | some u => some u | none => m p)
  | [], m, p, _, _ => rfl
  | (n, v) :: r, m, p, nd, hp => by
    obtain ⟨h1, h2⟩ := List.nodup_cons.mp nd
    unfold bindL
    rw [bindL_get kd r _ p h2 hp, List.lookup_cons]
    cases q : p == n with
    | true =>
      have : p = n := by simpa using q
      subst this
      have hn : r.lookup p = none := by
        cases z : r.lookup p with
        | none => rfl
        | some u => exact absurd (List.mem_map.mpr ⟨_, PySem.mem_of_lookup z, rfl⟩) h1
      rw [hn, if_pos hp]
      simp
    | false =>
      have hne : p ≠ n := by simpa using q
      cases z : r.lookup p with
      | some u => rfl
      | none =>
        by_cases hk : kd n = some .local
        · rw [if_pos hk]; simp [hne]
        · rw [if_neg hk]
theorem bindC_get (kd : Str → Option NameKind) : ∀ (binds : List (Str × Value)) (m : Str → Option Value) (p : Str), (binds.map (·.1)).Nodup → kd p ≠ some .local →
    bindC kd binds m p = (match binds.lookup p with | some u => some u | none => m p)
  | [], m, p, _, _ => rfl
  | (n, v) :: r, m, p, nd, hp => by
    obtain ⟨h1, h2⟩ := List.nodup_cons.mp nd
    unfold bindC
    rw [bindC_get kd r _ p h2 hp, List.lookup_cons]
    cases q : p == n with
    | true =>
      have : p = n := by simpa using q
      subst this
      have hn : r.lookup p = none := by
        cases z : r.lookup p with
        | none => rfl
        | some u => exact absurd (List.mem_map.mpr ⟨_, PySem.mem_of_lookup z, rfl⟩) h1
      rw [hn, if_neg hp]
      simp
    | false =>
      have hne : p ≠ n := by simpa using q
      cases z : r.lookup p with
      | some u => rfl
      | none =>
        by_cases hk : kd n = some .local
        · rw [if_pos hk]
        · rw [if_neg hk]; simp [hne]
theorem zip_lookup {h : Heap} : ∀ (ps : List Str) (vs : List V) (us : List Value) (p : Str) (v : V), RepL X h vs us → (ps.zip vs).lookup p = some v → ∃ u, (ps.zip us).lookup p = some u ∧ Rep X h v u
  | [], _, _, _, _, _, e => by simp at e
  | n :: ps, [], _, _, _, _, e => by simp at e
  | n :: ps, x :: vs, us, p, v, ⟨u, r, eu, ru, rr⟩, e => by
    subst eu
    simp only [List.zip_cons_cons, List.lookup_cons] at e ⊢
    cases q : p == n with
    | true => rw [q] at e; cases e; exact ⟨u, rfl, ru⟩
    | false => rw [q] at e; exact zip_lookup ps vs r p v rr e
theorem cells_mem {x : Str} : ∀ (names : List (Str × NameKind)) (n : Nat) (acc : List (Str × Addr)), ((x, NameKind.cell) ∈ names ∨ ∃ c, (x, c) ∈ acc) → ∃ c, (x, c) ∈ cellsFrom n names acc
  | [], _, _, h => h.elim (fun h => nomatch h) id
  | (m, k) :: r, n, acc, h => by
    unfold cellsFrom
    cases hk : k == NameKind.cell with
    | true =>
      simp only [if_true]
      refine cells_mem r _ _ ?_
      rcases h with h | ⟨c, h⟩
      · rcases List.mem_cons.mp h with e | h
        · cases e; exact .inr ⟨n, List.mem_cons_self⟩
        · exact .inl h
      · exact .inr ⟨c, List.mem_cons_of_mem _ h⟩
    | false =>
      simp only [Bool.false_eq_true, if_false]
      refine cells_mem r _ _ ?_
      rcases h with h | h
      · rcases List.mem_cons.mp h with e | h
        · cases e; simp at hk
        · exact .inl h
      · exact .inr h
theorem lookup_some_of_mem {x : Str} : ∀ {l : List (Str × Addr)}, (∃ c, (x, c) ∈ l) → ∃ c, l.lookup x = some c
  | [], ⟨_, h⟩ => nomatch h
  | (n, d) :: l, ⟨c, h⟩ => by
    rw [List.lookup_cons]
    cases q : x == n with
    | true => exact ⟨d, rfl⟩
    | false =>
      refine lookup_some_of_mem ⟨c, ?_⟩
      rcases List.mem_cons.mp h with e | h
      · cases e; simp at q
      · exact h
theorem cells_lookup {x : Str} {names : List (Str × NameKind)} (n : Nat) (h : names.lookup x = some .cell) : ∃ c, (cellsFrom n names []).lookup x = some c :=
  lookup_some_of_mem (cells_mem names n [] (.inl (PySem.mem_of_lookup h)))
theorem len_cons {α : Type} {n : Nat} : ∀ {us : List α}, us.length = n + 1 → ∃ a r, us = a :: r ∧ r.length = n
  | a :: r, h => ⟨a, r, rfl, Nat.succ.inj h⟩
theorem len_nil {α : Type} : ∀ {us : List α}, us.length = 0 → us = []
  | [], _ => rfl
/-- a def of the text's, as data -/
structure FnOk (w : World) (f : Addr) (fd : FuncData) (body : List Stmt) (ps : List Str) : Prop where
  obj : ∃ o, (kt w.params).get f = some o ∧ o.data = .func fd
  code : ∃ c o vs t, fd.code = .ref c ∧ (kt w.params).get c = some o ∧ o.data = .fields vs ∧ vs[1]? = some (.str fd.qualname t)
  body : fd.body = .stmts body
  clo : fd.closure = []
  glob : fd.globals = mainGlobals
  blt : fd.builtins = builtinsNs
  kind : fd.scope.kind = .function
  gen : fd.scope.isGenerator = false
  co : fd.scope.isCoroutine = false
  nodup : ps.Nodup
  kinds : ps.all (fun p => fd.scope.names.lookup p == some .local || fd.scope.names.lookup p == some .cell) = true
  bind : ∀ us : List Value, us.length = ps.length → bindArgs fd ⟨us, []⟩ = pure (ps.zip us)
theorem zip_keys {ps : List Str} {us : List Value} (h : us.length = ps.length) : (ps.zip us).map (·.1) = ps := by
  rw [List.map_fst_zip]; omega
theorem does_fn {φ' : Around → Prop} {f : Addr} {fd : FuncData} {body : List Stmt} {ps : List Str} {vs : List V} {v : V} (hf : FnOk w f fd body ps) (hl : vs.length = ps.length)
    (hno : (nsOf (match (kt w.params).get cStatics with | some o => o | none => lst #[] 0)) "sys.recursionlimit" = none) (hst : ∃ o, (kt w.params).get cStatics = some o ∧ strOnly o = true)
    (hφ : ∀ A env, φ A → AOk A → φ' (A.deeper env) ∧ AOk (A.deeper env)) (hr : Ret w φ' X fd.scope.names (ps.zip vs) body v) : Does w φ X (.ref f) vs v := by
  intro A s us Q E hP hA I r k
  obtain ⟨o, ho, hd⟩ := hf.obj
  obtain ⟨c, oc, cs, t, e1, e2, e3, e4⟩ := hf.code
  have hlen : us.length = ps.length := by rw [r.len, hl]
  have hkeys := zip_keys (ps := ps) hlen
  obtain ⟨hP', hA'⟩ := hφ A (callEnvC fd s.heap.objs.size f) hP hA
  have hlim : s.heap.NoLimit := by
    obtain ⟨ob, hob, hso⟩ := hst
    rw [hob] at hno
    exact ⟨_, nsOf_ns (I.kt _ _ hob) hso, hno⟩
  have hkind : ∀ x ∈ ps, fd.scope.names.lookup x = some .local ∨ fd.scope.names.lookup x = some .cell := fun x hx => by
    have := List.all_eq_true.mp hf.kinds x hx
    simpa using this
  refine wpAny_call (codeAny_call_cells (by have := hA.dp; show A.depth < 1000; omega) (I.kt _ _ ho) hd hlim ⟨c, oc, cs, t, e1, I.kt _ _ e2, e3, e4⟩ hf.body (hf.bind us hlen) hf.clo (fun x hx => ?_) (fun s₁ x => ?_) hf.co hf.gen hf.kind)
  · have hx' : x.1 ∈ ps := by rw [← hkeys]; exact List.mem_map.mpr ⟨x, hx, rfl⟩
    rcases hkind _ hx' with h | h
    · exact .inl h
    · obtain ⟨d, hd⟩ := cells_lookup (s.heap.objs.size + 1) h
      exact .inr ⟨h, by rw [hd]; rfl⟩
  · have hE : EnvIs fd.scope.names (callEnvC fd s.heap.objs.size f) := ⟨rfl, hf.kind, hf.glob, hf.blt⟩
    have hC : CellsIn fd.scope.names (callEnvC fd s.heap.objs.size f) := fun y hy => cells_lookup _ hy
    have kp := x.toInCall.keep
    have sm : Same s s₁ := by obtain ⟨h, tk, e⟩ := x.toInCall.same; rw [e]; exact ⟨rfl, rfl⟩
    have X1 : Ext s s₁ := Ext.of kp sm
    have Fm : Frm w X (callEnvC fd s.heap.objs.size f) s s₁ (ps.zip vs) := by
      refine ⟨I.of kp, fun y z hy => ?_, X1, I.high, ⟨fun a ha => ⟨Nat.ne_of_lt (I.lt ha), fun y c ec => Nat.ne_of_lt (Nat.lt_trans (I.lt ha) (x.above y c (PySem.mem_of_lookup ec)))⟩, fun _ h => I.nb h⟩, Nat.le_refl _, ⟨_, x.toInCall.ns⟩, fun y c ec => ?_, fun y z c h1 h2 => name_of_addr x.apart (PySem.mem_of_lookup h1) (PySem.mem_of_lookup h2)⟩
      · obtain ⟨u, hu, ru⟩ := zip_lookup (X := X) ps vs us y z r hy
        have hyp : y ∈ ps := by
          rw [← hkeys]; exact List.mem_map.mpr ⟨_, PySem.mem_of_lookup hu, rfl⟩
        refine ⟨u, Rep.up X1.lists _ _ ru, ?_⟩
        have nd : ((ps.zip us).map (·.1)).Nodup := by rw [hkeys]; exact hf.nodup
        rcases hkind y hyp with h | h
        · refine .inl ⟨h, I.high, _, x.toInCall.ns, ?_⟩
          rw [bindL_get _ _ _ _ nd h, hu]
        · obtain ⟨c, hc⟩ := hC y h
          have hcell := x.cell y c hc
          rw [bindC_get _ _ _ _ nd (by rw [show (callEnvC fd s.heap.objs.size f).kindOf y = some .cell from h]; decide), hu] at hcell
          exact .inr ⟨.inl h, c, hc, Nat.le_trans I.high (Nat.le_of_lt (x.above y c (PySem.mem_of_lookup hc))), hcell⟩
      · have ab := x.above y c (PySem.mem_of_lookup ec)
        exact ⟨Nat.le_of_lt ab, (Nat.ne_of_lt ab).symm, _, x.cell y c ec⟩
    exact hr _ _ s s₁ _ _ hP' hA' hE hC Fm fun u s' I' X' r' => k u s' I' X' r'
end Vl
end
section
open PySem PySem.W PySem.W.X PyProof.Rows
set_option Elab.async false
set_option maxRecDepth 100000
set_option maxHeartbeats 2000000
set_option linter.unusedVariables false
namespace Vl
open Mine
variable {w : World} {X : Av} {φ : Around → Prop} {K : List (Str × NameKind)} {ρ : List (Str × V)}
theorem ev_eq {e : Expr} {a b : V} (h : Ev w φ X K ρ e a) (q : a = b) : Ev w φ X K ρ e b := q ▸ h
theorem tr_eq {e : Expr} {a b : Bool} (h : Tr w φ X K ρ e a) (q : a = b) : Tr w φ X K ρ e b := q ▸ h
theorem ret_skip {t : Expr} {body : List Stmt} {pos : Pos} {ss : List Stmt} {c : Bool} {v : V} (h : Tr w φ X K ρ t c) (hc : c = false) (h2 : Ret w φ X K ρ ss v) : Ret w φ X K ρ (.If t body [] pos :: ss) v :=
  ret_if h (fun q => by rw [hc] at q; cases q) rfl fun _ => h2
theorem thru_skip {t : Expr} {body orelse : List Stmt} {pos : Pos} {c : Bool} {ρ' : List (Str × V)} (h : Tr w φ X K ρ t c) (hc : c = false) (h2 : ThruL w φ X K ρ orelse ρ') : Thru w φ X K ρ (.If t body orelse pos) ρ' :=
  thru_if h (fun q => by rw [hc] at q; cases q) fun _ => h2
theorem thru_take {t : Expr} {body orelse : List Stmt} {pos : Pos} {c : Bool} {ρ' : List (Str × V)} (h : Tr w φ X K ρ t c) (hc : c = true) (h1 : ThruL w φ X K ρ body ρ') : Thru w φ X K ρ (.If t body orelse pos) ρ' :=
  thru_if h (fun _ => h1) fun q => by rw [hc] at q; cases q
theorem swaps_cell {e : Expr} {x : Str} {px : Pos} {line : Nat} (hk : K.lookup x = some .cell) : ∀ env, EnvIs K env → swapsWith e (some (.Name x px)) line env = pure false := by
  intro env hE
  have hx : env.kindOf x = some .cell := (hE.k x).trans hk
  cases e <;> first
    | rfl
    | (unfold swapsWith
       simp only [hx, pure_bind]
       simp only [show (some NameKind.cell == some NameKind.local) = false from rfl, Bool.and_false, Bool.false_and])
theorem swaps_comp {elt : Expr} {gs : List Comprehension} {scope : Scope} {cpos : Pos} {x : Str} {px : Pos} {line : Nat} (hk : K.lookup x = some .local) (hl : (px.line == cpos.line) = true) (hn : (scope.names.any fun (n, k) => n == x && (k == .local || k == .cell)) = false) :
    ∀ env, EnvIs K env → swapsWith (.ListComp elt gs scope cpos) (some (.Name x px)) line env = pure true := by
  intro env hE
  have hx : env.kindOf x = some .local := (hE.k x).trans hk
  unfold swapsWith
  have hb : (env.blockKind == ScopeKind.function) = true := by unfold Env.blockKind; rw [hE.kind]; rfl
  show (pure (env.blockKind == .function && env.kindOf x == some .local && px.line == (Expr.ListComp elt gs scope cpos).pos.line && !(scope.names.any fun (n, k) => n == x && (k == .local || k == .cell))) : Sem Bool) = pure true
  rw [hx, hb, hn]
  have : (px.line == (Expr.ListComp elt gs scope cpos).pos.line) = true := hl
  rw [this]; rfl
/-- a comprehension, its outcome said -/
theorem ev_compO {elt iter tgt : Expr} {ifs : List Expr} {scope : Scope} {pos : Pos} {ι : Type} {xs : List ι} (enc : ι → V) (p : ι → Bool) (F : ι → V) (β : ι → List (Str × V)) {src out : List V} (hs0 : src = xs.map enc) (ho : (xs.filter p).map F = out)
    (hsrc : Src w φ X K ρ tgt iter src) (hkind : scope.kind = .function) (hsc : scopeOk K ρ scope.names = true) (hs : ∀ env x, foldedSetIterable iter env x = pure x)
    (hβ : ∀ x ∈ xs, ∀ D, Bind w (X.add D) (relab K scope.names) tgt (enc x) (β x))
    (hT : ∀ x ∈ xs, ∀ D, TrF w φ (X.add D) (relab K scope.names) (β x ++ cap ρ scope.names) ifs (p x))
    (hF : ∀ x ∈ xs, p x = true → ∀ D, Ev w φ (X.add D) (relab K scope.names) (β x ++ cap ρ scope.names) elt (F x)) (hb : xs.length ≤ 1000) :
    Ev w φ X K ρ (.ListComp elt [⟨tgt, iter, ifs, 0⟩] scope pos) (.list out) := by
  subst hs0 ho
  exact ev_comp enc p F β hsrc hkind hsc hs hβ hT hF hb
theorem thru_compO {x : Str} {px pos cpos : Pos} {elt iter tgt : Expr} {ifs : List Expr} {scope : Scope} {ι : Type} {xs : List ι} (enc : ι → V) (p : ι → Bool) (F : ι → V) (β : ι → List (Str × V)) {src out : List V} (hs0 : src = xs.map enc) (ho : (xs.filter p).map F = out)
    (hk : K.lookup x = some .local) (hl : (px.line == cpos.line) = true) (hn : (scope.names.any fun (n, k) => n == x && (k == .local || k == .cell)) = false)
    (hsrc : Src w φ X K ρ tgt iter src) (hkind : scope.kind = .function) (hsc : scopeOk K ρ scope.names = true) (hs : ∀ env x, foldedSetIterable iter env x = pure x)
    (hβ : ∀ x ∈ xs, ∀ D, Bind w (X.add D) (relab K scope.names) tgt (enc x) (β x))
    (hT : ∀ x ∈ xs, ∀ D, TrF w φ (X.add D) (relab K scope.names) (β x ++ cap ρ scope.names) ifs (p x))
    (hF : ∀ x ∈ xs, p x = true → ∀ D, Ev w φ (X.add D) (relab K scope.names) (β x ++ cap ρ scope.names) elt (F x)) (hb : xs.length ≤ 1000) :
    Thru w φ X K ρ (.Assign [.Name x px] (.ListComp elt [⟨tgt, iter, ifs, 0⟩] scope cpos) pos) ((x, .list out) :: ρ) := by
  subst hs0 ho
  exact thru_comp enc p F β hk (swaps_comp hk hl hn) hsrc hkind hsc hs hβ hT hF hb
theorem max_of : ∀ (l : List Int), 0 < l.length → ∃ M ∈ l, ∀ a ∈ l, a ≤ M
  | [x], _ => ⟨x, List.mem_cons_self, fun a h => by simp at h; omega⟩
  | x :: y :: l, _ => by
    obtain ⟨M, h1, h2⟩ := max_of (y :: l) (by simp)
    by_cases h : x ≤ M
    · exact ⟨M, List.mem_cons_of_mem _ h1, fun a ha => by
        rcases List.mem_cons.mp ha with rfl | ha
        · exact h
        · exact h2 a ha⟩
    · exact ⟨x, List.mem_cons_self, fun a ha => by
        rcases List.mem_cons.mp ha with rfl | ha
        · exact Int.le_refl _
        · have := h2 a ha; omega⟩
theorem min_of : ∀ (l : List Int), 0 < l.length → ∃ M ∈ l, ∀ a ∈ l, M ≤ a
  | [x], _ => ⟨x, List.mem_cons_self, fun a h => by simp at h; omega⟩
  | x :: y :: l, _ => by
    obtain ⟨M, h1, h2⟩ := min_of (y :: l) (by simp)
    by_cases h : M ≤ x
    · exact ⟨M, List.mem_cons_of_mem _ h1, fun a ha => by
        rcases List.mem_cons.mp ha with rfl | ha
        · exact h
        · exact h2 a ha⟩
    · exact ⟨x, List.mem_cons_self, fun a ha => by
        rcases List.mem_cons.mp ha with rfl | ha
        · exact Int.le_refl _
        · have := h2 a ha; omega⟩
theorem fineL_of {l : List V} {n : Nat} (h : ∀ x ∈ l, x.fine n) : fineL l n := by
  induction l with
  | nil => exact True.intro
  | cons x l ih => exact ⟨h x List.mem_cons_self, ih fun y hy => h y (List.mem_cons_of_mem _ hy)⟩
end Vl
end
section
open PySem PySem.W PySem.W.X PyProof.Rows
set_option Elab.async false
set_option maxRecDepth 100000
set_option maxHeartbeats 2000000
set_option linter.unusedVariables false
namespace Vl
open Mine Lean Meta Elab Tactic
noncomputable def fd60 : FuncData := by run_tac fnLit 60 pure
noncomputable def bd60 : List Stmt := by run_tac fnLit 60 fun d => return d.getAppArgs[3]!.appArg!
noncomputable def ks60 : List (Str × NameKind) := by run_tac fnLit 60 fun d => return d.getAppArgs[4]!.getAppArgs[1]!
noncomputable def ps60 : List Str := by run_tac fnLit 60 fun d => do
  let a ← listOf d.getAppArgs[2]!.getAppArgs[1]!
  return listE (mkConst ``Str) (a.map fun x => x.getAppArgs[0]!)
theorem fn60 (w : World) : FnOk w 60 fd60 bd60 ps60 where
  obj := ⟨_, rfl, rfl⟩
  code := ⟨_, _, _, _, rfl, rfl, rfl, rfl⟩
  body := rfl
  clo := rfl
  glob := rfl
  blt := rfl
  kind := rfl
  gen := rfl
  co := rfl
  nodup := by decide
  kinds := rfl
  bind := fun us h => by
    obtain ⟨_, u0, e0, h0⟩ := len_cons (n := 1) h
    obtain ⟨_, u1, e1, h1⟩ := len_cons (n := 0) h0
    rw [e0, e1, len_nil h1]
    rfl
noncomputable def fd79 : FuncData := by run_tac fnLit 79 pure
noncomputable def bd79 : List Stmt := by run_tac fnLit 79 fun d => return d.getAppArgs[3]!.appArg!
noncomputable def ks79 : List (Str × NameKind) := by run_tac fnLit 79 fun d => return d.getAppArgs[4]!.getAppArgs[1]!
noncomputable def ps79 : List Str := by run_tac fnLit 79 fun d => do
  let a ← listOf d.getAppArgs[2]!.getAppArgs[1]!
  return listE (mkConst ``Str) (a.map fun x => x.getAppArgs[0]!)
theorem fn79 (w : World) : FnOk w 79 fd79 bd79 ps79 where
  obj := ⟨_, rfl, rfl⟩
  code := ⟨_, _, _, _, rfl, rfl, rfl, rfl⟩
  body := rfl
  clo := rfl
  glob := rfl
  blt := rfl
  kind := rfl
  gen := rfl
  co := rfl
  nodup := by decide
  kinds := rfl
  bind := fun us h => by
    obtain ⟨_, u0, e0, h0⟩ := len_cons (n := 5) h
    obtain ⟨_, u1, e1, h1⟩ := len_cons (n := 4) h0
    obtain ⟨_, u2, e2, h2⟩ := len_cons (n := 3) h1
    obtain ⟨_, u3, e3, h3⟩ := len_cons (n := 2) h2
    obtain ⟨_, u4, e4, h4⟩ := len_cons (n := 1) h3
    obtain ⟨_, u5, e5, h5⟩ := len_cons (n := 0) h4
    rw [e0, e1, e2, e3, e4, e5, len_nil h5]
    rfl
noncomputable def fd84 : FuncData := by run_tac fnLit 84 pure
noncomputable def bd84 : List Stmt := by run_tac fnLit 84 fun d => return d.getAppArgs[3]!.appArg!
noncomputable def ks84 : List (Str × NameKind) := by run_tac fnLit 84 fun d => return d.getAppArgs[4]!.getAppArgs[1]!
noncomputable def ps84 : List Str := by run_tac fnLit 84 fun d => do
  let a ← listOf d.getAppArgs[2]!.getAppArgs[1]!
  return listE (mkConst ``Str) (a.map fun x => x.getAppArgs[0]!)
theorem fn84 (w : World) : FnOk w 84 fd84 bd84 ps84 where
  obj := ⟨_, rfl, rfl⟩
  code := ⟨_, _, _, _, rfl, rfl, rfl, rfl⟩
  body := rfl
  clo := rfl
  glob := rfl
  blt := rfl
  kind := rfl
  gen := rfl
  co := rfl
  nodup := by decide
  kinds := rfl
  bind := fun us h => by
    obtain ⟨_, u0, e0, h0⟩ := len_cons (n := 4) h
    obtain ⟨_, u1, e1, h1⟩ := len_cons (n := 3) h0
    obtain ⟨_, u2, e2, h2⟩ := len_cons (n := 2) h1
    obtain ⟨_, u3, e3, h3⟩ := len_cons (n := 1) h2
    obtain ⟨_, u4, e4, h4⟩ := len_cons (n := 0) h3
    rw [e0, e1, e2, e3, e4, len_nil h4]
    rfl
noncomputable def fd89 : FuncData := by run_tac fnLit 89 pure
noncomputable def bd89 : List Stmt := by run_tac fnLit 89 fun d => return d.getAppArgs[3]!.appArg!
noncomputable def ks89 : List (Str × NameKind) := by run_tac fnLit 89 fun d => return d.getAppArgs[4]!.getAppArgs[1]!
noncomputable def ps89 : List Str := by run_tac fnLit 89 fun d => do
  let a ← listOf d.getAppArgs[2]!.getAppArgs[1]!
  return listE (mkConst ``Str) (a.map fun x => x.getAppArgs[0]!)
theorem fn89 (w : World) : FnOk w 89 fd89 bd89 ps89 where
  obj := ⟨_, rfl, rfl⟩
  code := ⟨_, _, _, _, rfl, rfl, rfl, rfl⟩
  body := rfl
  clo := rfl
  glob := rfl
  blt := rfl
  kind := rfl
  gen := rfl
  co := rfl
  nodup := by decide
  kinds := rfl
  bind := fun us h => by
    obtain ⟨_, u0, e0, h0⟩ := len_cons (n := 5) h
    obtain ⟨_, u1, e1, h1⟩ := len_cons (n := 4) h0
    obtain ⟨_, u2, e2, h2⟩ := len_cons (n := 3) h1
    obtain ⟨_, u3, e3, h3⟩ := len_cons (n := 2) h2
    obtain ⟨_, u4, e4, h4⟩ := len_cons (n := 1) h3
    obtain ⟨_, u5, e5, h5⟩ := len_cons (n := 0) h4
    rw [e0, e1, e2, e3, e4, e5, len_nil h5]
    rfl
noncomputable def fd94 : FuncData := by run_tac fnLit 94 pure
noncomputable def bd94 : List Stmt := by run_tac fnLit 94 fun d => return d.getAppArgs[3]!.appArg!
noncomputable def ks94 : List (Str × NameKind) := by run_tac fnLit 94 fun d => return d.getAppArgs[4]!.getAppArgs[1]!
noncomputable def ps94 : List Str := by run_tac fnLit 94 fun d => do
  let a ← listOf d.getAppArgs[2]!.getAppArgs[1]!
  return listE (mkConst ``Str) (a.map fun x => x.getAppArgs[0]!)
theorem fn94 (w : World) : FnOk w 94 fd94 bd94 ps94 where
  obj := ⟨_, rfl, rfl⟩
  code := ⟨_, _, _, _, rfl, rfl, rfl, rfl⟩
  body := rfl
  clo := rfl
  glob := rfl
  blt := rfl
  kind := rfl
  gen := rfl
  co := rfl
  nodup := by decide
  kinds := rfl
  bind := fun us h => by
    obtain ⟨_, u0, e0, h0⟩ := len_cons (n := 0) h
    rw [e0, len_nil h0]
    rfl
/-- how deep a frame may lie -/
def Lv (d : Nat) (A : Around) : Prop := A.handled = none ∧ A.depth ≤ d ∧ A.units ≤ 4 * d
theorem Lv.ok {d : Nat} {A : Around} (h : Lv d A) (hd : d ≤ 600) : AOk A := ⟨h.1, Nat.le_trans h.2.1 hd, by have := h.2.2; omega⟩
theorem Lv.deeper {d : Nat} (hd : d < 600) (A : Around) (env : Env) (h : Lv d A) (_ : AOk A) : Lv (d + 1) (A.deeper env) ∧ AOk (A.deeper env) := by
  have e : Lv (d + 1) (A.deeper env) := ⟨h.1, Nat.add_le_add_right h.2.1 1, by have := h.2.2; show A.units + 3 ≤ _; omega⟩
  exact ⟨e, e.ok hd⟩
theorem no_limit (w : World) : (nsOf (match (kt w.params).get cStatics with | some o => o | none => lst #[] 0)) "sys.recursionlimit" = none ∧ ∃ o, (kt w.params).get cStatics = some o ∧ strOnly o = true := ⟨by kernel_rfl, _, rfl, by kernel_rfl⟩
theorem does_of {w : World} {X : Av} {d : Nat} {f : Addr} {fd : FuncData} {body : List Stmt} {ps : List Str} {vs : List V} {v : V} (hd : d < 600) (hf : FnOk w f fd body ps) (hl : vs.length = ps.length) (hr : Ret w (Lv (d + 1)) X fd.scope.names (ps.zip vs) body v) : Does w (Lv d) X (.ref f) vs v :=
  does_fn hf hl (no_limit w).1 (no_limit w).2 (fun A env h h' => Lv.deeper hd A env h h') hr
end Vl
end
section
open PySem PySem.W PySem.W.X PyProof.Rows
set_option Elab.async false
set_option maxRecDepth 100000
set_option maxHeartbeats 2000000
set_option linter.unusedVariables false
namespace Vl
open Mine
theorem gl_type (w : World) : Glb w (⟨#[116, 121, 112, 101]⟩ : Str) (.type "type") := .inr ⟨by kernel_rfl, by kernel_rfl⟩
theorem gl_int (w : World) : Glb w (⟨#[105, 110, 116]⟩ : Str) (.type "int") := .inr ⟨by kernel_rfl, by kernel_rfl⟩
theorem gl_len (w : World) : Glb w (⟨#[108, 101, 110]⟩ : Str) (.builtin "len") := .inr ⟨by kernel_rfl, by kernel_rfl⟩
theorem gl_set (w : World) : Glb w (⟨#[115, 101, 116]⟩ : Str) (.type "set") := .inr ⟨by kernel_rfl, by kernel_rfl⟩
theorem gl_max (w : World) : Glb w (⟨#[109, 97, 120]⟩ : Str) (.builtin "max") := .inr ⟨by kernel_rfl, by kernel_rfl⟩
theorem gl_min (w : World) : Glb w (⟨#[109, 105, 110]⟩ : Str) (.builtin "min") := .inr ⟨by kernel_rfl, by kernel_rfl⟩
theorem gl_sum (w : World) : Glb w (⟨#[115, 117, 109]⟩ : Str) (.builtin "sum") := .inr ⟨by kernel_rfl, by kernel_rfl⟩
theorem gl_sorted (w : World) : Glb w (⟨#[115, 111, 114, 116, 101, 100]⟩ : Str) (.builtin "sorted") := .inr ⟨by kernel_rfl, by kernel_rfl⟩
theorem gl_range (w : World) : Glb w (⟨#[114, 97, 110, 103, 101]⟩ : Str) (.type "range") := .inr ⟨by kernel_rfl, by kernel_rfl⟩
theorem gl_law_ring (w : World) : Glb w (⟨#[95, 108, 97, 119, 95, 114, 105, 110, 103]⟩ : Str) (.ref 46) := .inl (by kernel_rfl)
theorem gl_law_rules (w : World) : Glb w (⟨#[95, 108, 97, 119, 95, 114, 117, 108, 101, 115]⟩ : Str) (.ref 53) := .inl (by kernel_rfl)
theorem gl_law_rank (w : World) : Glb w (⟨#[95, 108, 97, 119, 95, 114, 97, 110, 107]⟩ : Str) (.ref 60) := .inl (by kernel_rfl)
theorem gl_law_search (w : World) : Glb w (⟨#[95, 108, 97, 119, 95, 115, 101, 97, 114, 99, 104]⟩ : Str) (.ref 74) := .inl (by kernel_rfl)
theorem gl_law_asks (w : World) : Glb w (⟨#[95, 108, 97, 119, 95, 97, 115, 107, 115]⟩ : Str) (.ref 79) := .inl (by kernel_rfl)
theorem gl_law_parted (w : World) : Glb w (⟨#[95, 108, 97, 119, 95, 112, 97, 114, 116, 101, 100]⟩ : Str) (.ref 84) := .inl (by kernel_rfl)
theorem gl_law_counted (w : World) : Glb w (⟨#[95, 108, 97, 119, 95, 99, 111, 117, 110, 116, 101, 100]⟩ : Str) (.ref 89) := .inl (by kernel_rfl)
end Vl
end
section
namespace Mine
/-- what _law_rank tells -/
def rankV (fl c0 c1 : Int) : Int := (if fl.fmod 2 = 1 then 2 - c0 else c0) * 3 + (if 1 < fl then 2 - c1 else c1)
end Mine
end
section
open PySem PySem.W PySem.W.X PyProof.Rows
set_option Elab.async false
set_option maxRecDepth 100000
set_option maxHeartbeats 2000000
set_option linter.unusedVariables false
namespace Vl
open Mine
variable {w : World} {X : Av} {φ : Around → Prop}
theorem mulOk_right {a b : Int} (h : Builtin.Int.intBits b ≤ 64) : IntMulOk a b := by
  have h' : ¬ (Builtin.Int.intBits b > shortFactorBits) := Nat.not_lt.mpr h
  unfold IntMulOk; rw [decide_eq_false h']; simp
theorem rank_ret (c0 c1 fl : Int) (x2 : V) : Ret w φ X ks60 (ps60.zip [.list [.int c0, .int c1, x2], .int fl]) bd60 (.int (rankV fl c0 c1)) := by
  have e : rankV fl c0 c1 = (if (fl.fmod 2 == 1) = true then 2 - c0 else c0) * 3 + (if (decide (fl > 1)) = true then 2 - c1 else c1) := by
    unfold rankV; simp
  rw [e]
  delta bd60
  exact ret_cons (thru_assign (ev_ifInt (tr_cmp (ev_bin (ev_name rfl rfl) ev_int (op_mod (by decide))) ev_int cmp_eq rfl)
      (fun _ => ev_bin ev_int (ev_item (ev_name rfl rfl) ev_int (by decide) (by decide) rfl (fun _ _ => rfl)) op_sub)
      (fun _ => ev_item (ev_name rfl rfl) ev_int (by decide) (by decide) rfl (fun _ _ => rfl))) rfl (fun _ _ => rfl))
   (ret_cons (thru_assign (ev_ifInt (tr_cmp (ev_name rfl rfl) ev_int cmp_gt rfl)
      (fun _ => ev_bin ev_int (ev_item (ev_name rfl rfl) ev_int (by decide) (by decide) rfl (fun _ _ => rfl)) op_sub)
      (fun _ => ev_item (ev_name rfl rfl) ev_int (by decide) (by decide) rfl (fun _ _ => rfl))) rfl (fun _ _ => rfl))
   (ret_ret (ev_bin (ev_bin (ev_name rfl rfl) ev_int (op_mul (mulOk_right (by decide +kernel)))) (ev_name rfl rfl) op_add)))
end Vl
end
section
open PySem PySem.W PySem.W.X PyProof.Rows
set_option Elab.async false
set_option maxRecDepth 100000
set_option maxHeartbeats 1000000
namespace Mine
def likeOf (lk x : Int) : Int := if x = 0 then lk else x
def ringV (p0 q0 : Int) : Int := if (q0 - p0).fmod 3 = 0 then 0 else if (q0 - p0).fmod 3 = 1 then -4 else 4
theorem fmod3 (x : Int) : x.fmod 3 = 0 ∨ x.fmod 3 = 1 ∨ x.fmod 3 = 2 := by
  rw [Int.fmod_eq_emod_of_nonneg _ (by decide)]; omega
def rulesV (fl p0 p1 q0 q1 : Int) : Int := if p0 = q0 then (if 1 < fl then (q1 - p1) * 5 else p1 - q1) else (if fl.fmod 2 = 1 then (q0 - p0) * 3 else p0 - q0)
/-- a search by halves: the place, and what is asked -/
def bis (g : Nat → Bool) : Nat → Nat → Nat → Nat × List Nat
  | 0, lo, _ => (lo, [])
  | n + 1, lo, hi => if lo < hi then
      let r := if g ((lo + hi) / 2) then bis g n ((lo + hi) / 2 + 1) hi else bis g n lo ((lo + hi) / 2)
      (r.1, (lo + hi) / 2 :: r.2) else (lo, [])
end Mine
end
section
open PySem PySem.W PySem.W.X PyProof.Rows
set_option Elab.async false
set_option maxRecDepth 100000
set_option maxHeartbeats 2000000
set_option linter.unusedVariables false
namespace Vl
open Mine
variable {w : World} {X : Av} {φ : Around → Prop} {K : List (Str × NameKind)} {ρ : List (Str × V)}
theorem no_lim {s : Shared} (I : Inv w X s) : s.heap.NoLimit := by
  obtain ⟨ob, hob, hso⟩ := (no_limit w).2
  have hno := (no_limit w).1
  rw [hob] at hno
  exact ⟨_, nsOf_ns (I.kt _ _ hob) hso, hno⟩
theorem Has.nil {env : Env} {h : Heap} : Has X env h [] := fun x v e => by cases e
theorem Has.cons {env : Env} {h : Heap} {x : Str} {v : V} {u : Value} (H : Has X env h ρ) (r : Rep X h v u) (b : Bound env h x u) : Has X env h ((x, v) :: ρ) := fun y z e => by
  rw [List.lookup_cons] at e
  cases q : y == x with
  | true =>
    rw [q] at e; cases e
    have : y = x := by simpa using q
    subst this
    exact ⟨u, r, b⟩
  | false => rw [q] at e; exact H y z e
theorem name_wp {x : Str} {v : V} {pos : Pos} {env : Env} {A : Around} {s : Shared} {Q : Value → Shared → Prop} {E : Value → Shared → Prop} (hE : EnvIs K env) (H : Has X env s.heap ρ) (e : ρ.lookup x = some v) (hd : (x == ("__debug__" : Str) || x == ("__classdict__" : Str)) = false) (k : ∀ u, Rep X s.heap v u → Q u s) : wpAny (model prg w) A (eval (.Name x pos) env) Q E s := by
  obtain ⟨u, r, b⟩ := H x v e
  obtain ⟨h1, h2⟩ := (Bool.or_eq_false_iff).mp hd
  exact wpAny_Name (load_bound hE b h2 (k u r)) h1
/-- a def's call (no cells of its own; its closure's names are free) -/
theorem enter_clo {f : Addr} {o : Obj} {fd : FuncData} {body : List Stmt} {args : Args} {binds : List (Str × Value)} {A : Around} {s : Shared} {R : Result → Shared → Prop} (hA : A.depth ≤ 600) (I : Inv w X s)
    (ho : s.heap.get? f = some o) (hd : o.data = .func fd) (hcd : s.heap.CodeRec fd.code fd.qualname) (hbody : fd.body = .stmts body) (hb : BindsTo s fd args binds) (hcell : ∀ x ∈ fd.scope.names, x.2 ≠ .cell) (hloc : ∀ x ∈ binds, fd.scope.names.lookup x.1 = some .local)
    (hg : fd.globals = mainGlobals) (hbl : fd.builtins = builtinsNs) (hco : fd.scope.isCoroutine = false) (hgen : fd.scope.isGenerator = false) (hk : fd.scope.kind = .function)
    (k : ∀ (E : Value → Shared → Prop) (env : Env) (s₁ : Shared), EnvIs fd.scope.names env → env.cells = fd.closure → env.locals = s.heap.objs.size → Inv w X s₁ → (∀ b o, s.heap.get? b = some o → s₁.heap.get? b = some o) → Same s s₁ → s₁.heap.Ns env.locals (fun x => binds.reverse.lookup x) →
      wpAny (model prg w) (A.deeper env) (execs body env) (fun fl s' => R (.ok (.ret (match fl with | .ret v => v | _ => .none))) s') E s₁) :
    codeAny (model prg w) A (.call (.ref f) args) R s := by
  refine codeAny_call_def (by show A.depth < 1000; omega) ho hd (no_lim I) hcd hbody hb hcell hloc (fun h₀ hns kp => ?_) hco hgen hk
  exact k _ _ _ ⟨rfl, hk, hg, hbl⟩ rfl rfl (I.of kp) kp ⟨rfl, rfl⟩ hns
/-- all the memory of a state is kept -/
def Av.all (X : Av) (s : Shared) : Av := ⟨X.l, s.heap.get?, []⟩
theorem Inv.all {s : Shared} (I : Inv w X s) : Inv w (X.all s) s := ⟨I.kt, I.n, I.k, I.r, I.x, fun b o e => e, fun _ h => nomatch h⟩
theorem Rep.all {s : Shared} (I : Inv w X s) {h : Heap} {x : V} {v : Value} (r : Rep X h x v) : Rep (X.all s) h x v := Rep.less (X := X) (Y := X.all s) (fun a h => h) (fun a o e _ => I.bs a o e) _ _ r
theorem RepL.all {s : Shared} (I : Inv w X s) {h : Heap} {x : List V} {v : List Value} (r : RepL X h x v) : RepL (X.all s) h x v := RepL.less (X := X) (Y := X.all s) (fun a h => h) (fun a o e _ => I.bs a o e) _ _ r
theorem Has.all {s : Shared} (I : Inv w X s) {env : Env} {h : Heap} (H : Has X env h ρ) : Has (X.all s) env h ρ := fun x v e => let ⟨u, r, b⟩ := H x v e; ⟨u, r.all I, b⟩
/-- a function that a name holds, called -/
theorem callV_wp {x : Str} {np pos : Pos} {f : Addr} {o : Obj} {fd : FuncData} {e : Expr} {es : List Expr} {vs : List V} {env : Env} {A : Around} {s : Shared} {Q : Value → Shared → Prop} {E : Value → Shared → Prop} (hx : ρ.lookup x = some (.val (.ref f))) (hd : (x == ("__debug__" : Str) || x == ("__classdict__" : Str)) = false)
    (hf : o.data = .func fd) (he : ∀ env, starEach (e :: es) env = (false, eval e env) :: starEach es env) (ha : EvL w φ X K ρ (e :: es) vs) (hP : φ A) (hA : AOk A) (hE : EnvIs K env) (I : Inv w X s) (H : Has X env s.heap ρ) (ho : ∀ s', Inv w X s' → Ext s s' → s'.heap.get? f = some o)
    (k : ∀ us s', Inv w X s' → Ext s s' → RepL X s'.heap vs us → wpAny (model prg w) A (call (.ref f) us) Q E s') : wpAny (model prg w) A (eval (.Call (.Name x np) (e :: es) [] pos) env) Q E s := by
  refine wpAny_Call_ofName (ev_name hx hd env A s _ E hP hA hE I H fun u s1 I1 X1 r1 => ?_)
  obtain rfl : u = .ref f := r1
  refine Calls.callWith_function (o := o) (fd := fd) ?_
  have hA' := ha env A pos s1
  rw [plain_back he] at hA' ⊢
  exact Calls.evalArgs_plain (hA' _ E hP hA hE I1 (H.up X1) fun us s2 I2 X2 r2 => ⟨⟨ho s2 I2 (X1.trans X2), hf⟩, k us s2 I2 (X1.trans X2) r2⟩)
/-- a return of a number -/
theorem exec_ret {env : Env} {A : Around} {s : Shared} {Q : Flow → Shared → Prop} {E : Value → Shared → Prop} {e : Expr} {ps : Pos} {ss : List Stmt} {r : Int} (hP : φ A) (hA : AOk A) (hE : EnvIs K env) (I : Inv w X s) (H : Has X env s.heap ρ)
    (k : ∀ t s', Inv w X s' → Ext s s' → Q (.ret (.int r t)) s') (he : Ev w φ X K ρ e (.int r)) : wpAny (model prg w) A (execs (.Return (some e) ps :: ss) env) Q E s := by
  refine wpAny_execs_cons (wpAny_Return_some (he env A s _ _ hP hA hE I H fun u s3 I3 X3 r3 => ?_))
  obtain ⟨t, rfl⟩ := r3
  exact k t s3 I3 X3
end Vl
end
section
open PySem PySem.W PySem.W.X PyProof.Rows
set_option Elab.async false
set_option maxRecDepth 100000
set_option maxHeartbeats 2000000
set_option linter.unusedVariables false
namespace Vl
open Mine Lean Meta Elab Tactic
variable {w : World} {X : Av} {φ : Around → Prop} {K : List (Str × NameKind)} {ρ : List (Str × V)}
/-- a part of the first statement of a def's body -/
def inLit (f i : Nat) : TacticM Unit := fnLit f fun d => do
  let l ← listOf d.getAppArgs[3]!.appArg!
  return (← whnfCore l.head!).getAppArgs[i]!
noncomputable def fd46 : FuncData := by run_tac fnLit 46 pure
noncomputable def bd46 : List Stmt := by run_tac fnLit 46 fun d => return d.getAppArgs[3]!.appArg!
def nP : Str := ⟨#[112]⟩
def nQ : Str := ⟨#[113]⟩
def nTold : Str := ⟨#[116, 111, 108, 100]⟩
def nFalls : Str := ⟨#[102, 97, 108, 108, 115]⟩
theorem fn46 (w : World) : FnOk w 46 fd46 bd46 [nP, nQ] where
  obj := ⟨_, rfl, rfl⟩
  code := ⟨_, _, _, _, rfl, rfl, rfl, rfl⟩
  body := rfl
  clo := rfl
  glob := rfl
  blt := rfl
  kind := rfl
  gen := rfl
  co := rfl
  nodup := by decide
  kinds := rfl
  bind := fun us h => by
    obtain ⟨_, u0, e0, h0⟩ := len_cons (n := 1) h
    obtain ⟨_, u1, e1, h1⟩ := len_cons (n := 0) h0
    rw [e0, e1, len_nil h1]
    rfl
theorem ring_ret (p0 q0 : Int) (p1 p2 q1 q2 : V) : Ret w φ X fd46.scope.names ([nP, nQ].zip [.list [.int p0, p1, p2], .list [.int q0, q1, q2]]) bd46 (.int (ringV p0 q0)) := by
  delta bd46
  have h : 0 ≤ (q0 - p0).fmod 3 ∧ (q0 - p0).fmod 3 < 3 ∧ ([.int 0, .int (-4), .int 4] : List V)[((q0 - p0).fmod 3).toNat]? = some (.int (ringV p0 q0)) := by
    unfold ringV
    rcases fmod3 (q0 - p0) with e | e | e <;> rw [e] <;> refine ⟨by decide, by decide, ?_⟩
    · rfl
    · rw [if_neg (by decide)]; rfl
    · rw [if_neg (by decide), if_neg (by decide)]; rfl
  exact ret_ret (ev_item (ev_list (evl_cons ev_int (evl_cons (ev_neg ev_int) (evl_cons ev_int evl_nil (fun _ => rfl)) (fun _ => rfl)) (fun _ => rfl)) (by simp))
    (ev_bin (ev_bin (ev_item (ev_name rfl rfl) ev_int (by decide) (by decide) rfl (fun _ _ => rfl)) (ev_item (ev_name rfl rfl) ev_int (by decide) (by decide) rfl (fun _ _ => rfl)) op_sub) ev_int (op_mod (by decide)))
    h.1 (by have := h.2.1; omega) h.2.2 (fun _ _ => rfl))
noncomputable def paR : Arguments := by run_tac inLit 53 1
noncomputable def bdR : List Stmt := by run_tac inLit 53 2
noncomputable def scR : Scope := by run_tac inLit 53 6
/-- what a def made in a body is -/
structure Made (h : Heap) (f : Addr) (qual : Str) (params : Arguments) (body : List Stmt) (scope : Scope) (clos : List (Str × Addr)) : Prop where
  h9 : 95 ≤ f
  ob : ∃ doc pm c' ctv, h.get? f = some (fnMade nTold qual params body scope clos doc pm c' ctv) ∧ 95 ≤ c' ∧ h.CodeRec (.ref c') qual
theorem Made.up {h h' : Heap} {f : Addr} {qual : Str} {params : Arguments} {body : List Stmt} {scope : Scope} {clos : List (Str × Addr)} (M : Made h f qual params body scope clos)
    (k : ∀ b o, 95 ≤ b → tagOf o ≠ 3 → tagOf o ≠ 2 → h.get? b = some o → h'.get? b = some o) : Made h' f qual params body scope clos := by
  obtain ⟨h9, doc, pm, c', ctv, e, c9, c, o, vs, t, e1, e2, e3, e4⟩ := M
  cases e1
  exact ⟨h9, doc, pm, c', ctv, k _ _ h9 (by show (7 : Nat) ≠ 3; decide) (by show (7 : Nat) ≠ 2; decide) e, c9, c', o, vs, t, rfl, k _ _ c9 (by unfold tagOf; rw [e3]; show (9 : Nat) ≠ 3; decide) (by unfold tagOf; rw [e3]; show (9 : Nat) ≠ 2; decide) e2, e3, e4⟩
/-- a relation that the law hands on -/
inductive RelIs (w : World) (h : Heap) : Addr → (Int → Int → Int → Int → Int) → Prop
  | ring : RelIs w h 46 (fun p0 _ q0 _ => ringV p0 q0)
  | rules (f : Addr) (fl : Int) (tf : Nat) (c : Addr) (M : Made h f qToldR paR bdR scR [(nFalls, c)]) (c9 : 95 ≤ c) (hc : h.IsCell c (some (.int fl tf))) : RelIs w h f (rulesV fl)
theorem cell_up {h h' : Heap} {c : Addr} {v : Option Value} (c9 : 95 ≤ c) (H : h.IsCell c v) (k : ∀ b o, 95 ≤ b → tagOf o ≠ 3 → tagOf o ≠ 2 → h.get? b = some o → h'.get? b = some o) : h'.IsCell c v := by
  obtain ⟨o, e, d⟩ := H
  exact ⟨o, k _ _ c9 (by unfold tagOf; rw [d]; show (6 : Nat) ≠ 3; decide) (by unfold tagOf; rw [d]; show (6 : Nat) ≠ 2; decide) e, d⟩
theorem RelIs.up {h h' : Heap} {rel : Addr} {f : Int → Int → Int → Int → Int} (R : RelIs w h rel f) (k : ∀ b o, 95 ≤ b → tagOf o ≠ 3 → tagOf o ≠ 2 → h.get? b = some o → h'.get? b = some o) : RelIs w h' rel f := by
  cases R with
  | ring => exact .ring
  | rules f fl tf c M c9 hc => exact .rules _ fl tf c (M.up k) c9 (cell_up c9 hc k)
theorem RelIs.ext {s s' : Shared} {rel : Addr} {f : Int → Int → Int → Int → Int} (R : RelIs w s.heap rel f) (x : Ext s s') : RelIs w s'.heap rel f := R.up fun b o h9 t _ e => x.keep b o h9 t e
theorem RelIs.fn {s : Shared} {rel : Addr} {f : Int → Int → Int → Int → Int} (R : RelIs w s.heap rel f) : ∃ o fd, o.data = .func fd ∧ ∀ Y s', Inv w Y s' → Ext s s' → s'.heap.get? rel = some o := by
  cases R with
  | ring => exact ⟨_, fd46, rfl, fun Y s' I' X' => I'.kt 46 _ rfl⟩
  | rules f fl tf c M c9 hc =>
    obtain ⟨h9, doc, pm, c', ctv, e, _, _⟩ := M
    exact ⟨_, _, rfl, fun Y s' I' X' => X'.keep _ _ h9 (by show (7 : Nat) ≠ 3; decide) e⟩
/-- a relation told -/
theorem rel_wp {d : Nat} (hd : d < 590) {A : Around} {s : Shared} {Q : Value → Shared → Prop} {E : Value → Shared → Prop} (hA : Lv d A) (I : Inv w X s) {rel : Addr} {g : Int → Int → Int → Int → Int} (R : RelIs w s.heap rel g) {p0 p1 q0 q1 : Int} {p2 q2 : V} {up uq : Value}
    (rp : Rep X s.heap (.list [.int p0, .int p1, p2]) up) (rq : Rep X s.heap (.list [.int q0, .int q1, q2]) uq)
    (k : ∀ t s', (∀ b o, s.heap.get? b = some o → s'.heap.get? b = some o) → Same s s' → Q (.int (g p0 p1 q0 q1) t) s') : wpAny (model prg w) A (call (.ref rel) [up, uq]) Q E s := by
  have rp' := rp.all I
  have rq' := rq.all I
  cases R with
  | ring =>
    refine does_of (d := d) (by omega) (fn46 w) rfl (ring_ret p0 q0 _ _ _ _) A s [up, uq] Q E hA (hA.ok (by omega)) I.all ⟨up, [uq], rfl, rp', uq, [], rfl, rq', rfl⟩ fun u s' I' X' r' => ?_
    obtain ⟨t, rfl⟩ := r'
    exact k t s' I'.bs X'.same
  | rules f fl tf c M c9 hc =>
    obtain ⟨h9, doc, pm, c', ctv, e, c9', hcd⟩ := M
    refine wpAny_call (enter_clo (Nat.le_trans hA.2.1 (by omega)) I.all e rfl hcd rfl (BindsTo.of_eq (binds := [(nP, up), (nQ, uq)]) rfl) (show ∀ x ∈ scR.names, x.2 ≠ .cell by unfold scR; decide) (fun x hx => ?_) rfl rfl rfl rfl rfl fun E' env s₁ hE hcl hL I1 kp sm n => ?_)
    · simp only [List.mem_cons, List.not_mem_nil, or_false] at hx
      rcases hx with rfl | rfl <;> rfl
    have hE' : EnvIs scR.names env := hE
    have X1 : Ext s s₁ := Ext.of kp sm
    have lv : Lv (d + 1) (A.deeper env) := (Lv.deeper (by omega) A env hA (hA.ok (by omega))).1
    have lo : AOk (A.deeper env) := lv.ok (by omega)
    have L9 : 95 ≤ env.locals := by rw [hL]; exact I.high
    have H : Has (X.all s) env s₁.heap [(nP, .list [.int p0, .int p1, p2]), (nQ, .list [.int q0, .int q1, q2]), (nFalls, .int fl)] :=
      ((Has.nil.cons (v := .int fl) ⟨tf, rfl⟩ (.inr ⟨.inr ((hE'.k _).trans rfl), c, by rw [hcl]; rfl, c9, let ⟨o, h1, h2⟩ := hc; ⟨o, kp _ _ h1, h2⟩⟩)).cons (Rep.up X1.lists _ _ rq') (.inl ⟨(hE'.k _).trans rfl, L9, _, n, rfl⟩)).cons (Rep.up X1.lists _ _ rp') (.inl ⟨(hE'.k _).trans rfl, L9, _, n, rfl⟩)
    delta bdR
    refine wpAny_execs_cons (wpAny_If (tr_cmp (ev_item (ev_name rfl rfl) ev_int (by decide) (by decide) rfl (fun _ _ => rfl)) (ev_item (ev_name rfl rfl) ev_int (by decide) (by decide) rfl (fun _ _ => rfl)) cmp_ne rfl env _ s₁ _ _ lv lo hE' I1 H fun s2 I2 X2 => ?_))
    cases hc : (p0 != q0) with
    | true =>
      have this : ¬ p0 = q0 := by simpa using hc
      have e1 : (if (fl.fmod 2 == 1) = true then (q0 - p0) * 3 else p0 - q0) = rulesV fl p0 p1 q0 q1 := by
        unfold rulesV
        rw [if_neg this]; simp
      refine exec_ret lv lo hE' I2 (H.up X2) (fun t s3 I3 X3 => ?_) (ev_ifInt (tr_cmp (ev_bin (ev_name rfl rfl) ev_int (op_mod (by decide))) ev_int cmp_eq rfl)
        (fun _ => ev_bin (ev_bin (ev_item (ev_name rfl rfl) ev_int (by decide) (by decide) rfl (fun _ _ => rfl)) (ev_item (ev_name rfl rfl) ev_int (by decide) (by decide) rfl (fun _ _ => rfl)) op_sub) ev_int (op_mul (mulOk_right (by decide +kernel))))
        (fun _ => ev_bin (ev_item (ev_name rfl rfl) ev_int (by decide) (by decide) rfl (fun _ _ => rfl)) (ev_item (ev_name rfl rfl) ev_int (by decide) (by decide) rfl (fun _ _ => rfl)) op_sub))
      rw [e1]
      exact k t s3 I3.bs ((X1.trans X2).trans X3).same
    | false =>
      have this : p0 = q0 := by simpa using hc
      have e1 : (if (decide (fl > 1)) = true then (q1 - p1) * 5 else p1 - q1) = rulesV fl p0 p1 q0 q1 := by
        unfold rulesV
        rw [if_pos this]; simp
      refine wpAny_execs_nil ?_
      refine exec_ret lv lo hE' I2 (H.up X2) (fun t s3 I3 X3 => ?_) (ev_ifInt (tr_cmp (ev_name rfl rfl) ev_int cmp_gt rfl)
        (fun _ => ev_bin (ev_bin (ev_item (ev_name rfl rfl) ev_int (by decide) (by decide) rfl (fun _ _ => rfl)) (ev_item (ev_name rfl rfl) ev_int (by decide) (by decide) rfl (fun _ _ => rfl)) op_sub) ev_int (op_mul (mulOk_right (by decide +kernel))))
        (fun _ => ev_bin (ev_item (ev_name rfl rfl) ev_int (by decide) (by decide) rfl (fun _ _ => rfl)) (ev_item (ev_name rfl rfl) ev_int (by decide) (by decide) rfl (fun _ _ => rfl)) op_sub))
      rw [e1]
      exact k t s3 I3.bs ((X1.trans X2).trans X3).same
end Vl
end
section
open PySem PySem.W PySem.W.X PyProof.Rows
set_option Elab.async false
set_option maxRecDepth 100000
set_option maxHeartbeats 2000000
set_option linter.unusedVariables false
namespace Vl
open Mine Lean Meta Elab Tactic
variable {w : World} {X : Av} {φ : Around → Prop} {K : List (Str × NameKind)} {ρ : List (Str × V)}
noncomputable def paN : Arguments := by run_tac inLit 67 1
noncomputable def bdN : List Stmt := by run_tac inLit 67 2
noncomputable def scN : Scope := by run_tac inLit 67 6
def nRel : Str := ⟨#[114, 101, 108, 97, 116, 105, 111, 110]⟩
def nLikes : Str := ⟨#[108, 105, 107, 101, 115]⟩
def nNotes : Str := ⟨#[110, 111, 116, 101, 115]⟩
/-- all the memory but one list -/
def Av.but (X : Av) (s : Shared) (nt : Addr) : Av := ⟨X.l, fun b => if b = nt then none else s.heap.get? b, []⟩
theorem Inv.but {s : Shared} (I : Inv w X s) (nt : Addr) : Inv w (X.but s nt) s := ⟨I.kt, I.n, I.k, I.r, I.x, fun b o e => by
  have e' : (if b = nt then none else s.heap.get? b) = some o := e
  split at e'
  · cases e'
  · exact e', fun _ h => nomatch h⟩
theorem own_but {s : Shared} (I : Inv w X s) {nt : Addr} (nb : X.B nt = none) : OwnB X (X.but s nt) := fun a o e _ => by
  show (if a = nt then none else s.heap.get? a) = some o
  rw [if_neg (fun q => by rw [q, nb] at e; cases e)]
  exact I.bs a o e
theorem Rep.but {s : Shared} (I : Inv w X s) {nt : Addr} (nb : X.B nt = none) {h : Heap} {x : V} {v : Value} (r : Rep X h x v) : Rep (X.but s nt) h x v := Rep.less (X := X) (Y := X.but s nt) (fun a h => h) (own_but I nb) _ _ r
theorem Has.but {s : Shared} (I : Inv w X s) {nt : Addr} (nb : X.B nt = none) {env : Env} {h : Heap} (H : Has X env h ρ) : Has (X.but s nt) env h ρ := fun x v e => let ⟨u, r, b⟩ := H x v e; ⟨u, r.but I nb, b⟩
/-- one list has grown -/
theorem Inv.note {s s' : Shared} (I : Inv w X s) {nt : Addr} {vs vs' : Array Value} {n n' : Nat} (hX : nt ∈ X.l) (nb : X.B nt = none) (e : s.heap.get? nt = some (lst vs n)) (e' : s'.heap.get? nt = some (lst vs' n')) (k : ∀ b o, b ≠ nt → s.heap.get? b = some o → s'.heap.get? b = some o) : Inv w X s' :=
  I.touch (I.x _ hX).1 e rfl (fun _ => ⟨_, e'⟩) nb (fun q => absurd q (I.frTag e (by show (2 : Nat) ≠ 3; decide))) k
theorem lists_note {h h' : Heap} {nt : Addr} (hX : nt ∈ X.l) (k : ∀ b o, b ≠ nt → h.get? b = some o → h'.get? b = some o) : Lists X h h' := fun b vs n _ hb e => k b _ (fun q => hb (q ▸ hX)) e
theorem Bound.note {env : Env} {h h' : Heap} {nt : Addr} {vs : Array Value} {n : Nat} {x : Str} {v : Value} (e : h.get? nt = some (lst vs n)) (k : ∀ b o, b ≠ nt → h.get? b = some o → h'.get? b = some o) (b : Bound env h x v) : Bound env h' x v := by
  rcases b with ⟨a, h9, m, ns, em⟩ | ⟨a, c, ec, h9, oc, hc, hd⟩
  · refine .inl ⟨a, h9, m, ns_off ns fun o e' => k _ _ (fun q => ?_) e', em⟩
    obtain ⟨o2, e2, t2⟩ := ns_tag ns
    rw [q, e] at e2; cases e2
    exact absurd t2 (by show (2 : Nat) ≠ 3; decide)
  · refine .inr ⟨a, c, ec, h9, oc, k c oc (fun q => ?_) hc, hd⟩
    rw [q, e] at hc; cases hc; cases hd
theorem Has.note {env : Env} {h h' : Heap} {nt : Addr} {vs : Array Value} {n : Nat} (hX : nt ∈ X.l) (e : h.get? nt = some (lst vs n)) (k : ∀ b o, b ≠ nt → h.get? b = some o → h'.get? b = some o) (H : Has X env h ρ) : Has X env h' ρ :=
  fun x v q => let ⟨u, r, b⟩ := H x v q; ⟨u, Rep.up (lists_note hX k) _ _ r, b.note e k⟩
theorem but_keeps {s s' : Shared} {nt : Addr} (I : Inv w (X.but s nt) s') : ∀ b o, b ≠ nt → s.heap.get? b = some o → s'.heap.get? b = some o := fun b o hb e => I.bs b o (show (if b = nt then none else s.heap.get? b) = some o by rw [if_neg hb]; exact e)
/-- the comparison's memory: what _law_noted was handed -/
structure Noted (w : World) (h : Heap) (f rel nt : Addr) (lk : Int) : Prop where
  m : ∃ c1 c2 c3 tl, Made h f qToldN paN bdN scN [(nRel, c1), (nNotes, c3), (nLikes, c2)] ∧ (95 ≤ c1 ∧ 95 ≤ c2 ∧ 95 ≤ c3) ∧ h.IsCell c1 (some (.ref rel)) ∧ h.IsCell c2 (some (.int lk tl)) ∧ h.IsCell c3 (some (.ref nt))
theorem Noted.up {h h' : Heap} {f rel nt : Addr} {lk : Int} (N : Noted w h f rel nt lk) (k : ∀ b o, 95 ≤ b → tagOf o ≠ 3 → tagOf o ≠ 2 → h.get? b = some o → h'.get? b = some o) : Noted w h' f rel nt lk := by
  obtain ⟨c1, c2, c3, tl, M, ⟨a, b, c⟩, d, e, g⟩ := N
  exact ⟨c1, c2, c3, tl, M.up k, ⟨a, b, c⟩, cell_up a d k, cell_up b e k, cell_up c g k⟩
/-- a note -/
def PairAt (l : List Addr) (h : Heap) (u : Value) (a b : Int) : Prop := ∃ e t1 t2 m, u = .ref e ∧ 95 ≤ e ∧ e ∉ l ∧ h.get? e = some (lst #[.int a t1, .int b t2] m)
theorem pair_of {h : Heap} {a b : Int} {u : Value} (r : Rep X h (.list [.int a, .int b]) u) : PairAt X.l h u a b := by
  obtain ⟨t, vs, m, rfl, t9, tx, g, q⟩ := r
  obtain ⟨v0, r0, e0, ⟨t0, rfl⟩, v1, r1, e1, ⟨t1, rfl⟩, rfl⟩ := q
  have : vs = #[.int a t0, .int b t1] := by apply Array.ext'; rw [e0, e1]
  exact ⟨t, t0, t1, m, rfl, t9, tx, this ▸ g⟩
theorem PairAt.rep {h : Heap} {a b : Int} {u : Value} (P : PairAt X.l h u a b) : Rep X h (.list [.int a, .int b]) u := by
  obtain ⟨e, t1, t2, m, rfl, e9, ex, g⟩ := P
  exact ⟨e, _, m, rfl, e9, ex, g, _, _, rfl, ⟨t1, rfl⟩, _, _, rfl, ⟨t2, rfl⟩, rfl⟩
theorem PairAt.up {l : List Addr} {h h' : Heap} {a b : Int} {u : Value} (P : PairAt l h u a b) (k : ∀ e o, 95 ≤ e → e ∉ l → h.get? e = some o → tagOf o = 2 → h'.get? e = some o) : PairAt l h' u a b := by
  obtain ⟨e, t1, t2, m, rfl, e9, ex, g⟩ := P
  exact ⟨e, t1, t2, m, rfl, e9, ex, k e _ e9 ex g rfl⟩
def nAns : Str := ⟨#[97, 110, 115, 119, 101, 114]⟩
/-- _law_noted's told -/
theorem told_wp {d : Nat} (hd : d < 580) {A : Around} {s : Shared} {Q : Value → Shared → Prop} {E : Value → Shared → Prop} (hA : Lv d A) (I : Inv w X s) {nt f rel : Addr} {lk : Int} (hX : nt ∈ X.l) (nb : X.B nt = none) (N : Noted w s.heap f rel nt lk) {g : Int → Int → Int → Int → Int} (R : RelIs w s.heap rel g)
    {p0 p1 p2 q0 q1 q2 : Int} {up uq : Value} (rp : Rep X s.heap (.list [.int p0, .int p1, .int p2]) up) (rq : Rep X s.heap (.list [.int q0, .int q1, .int q2]) uq) {vs : Array Value} {n : Nat} (hn : s.heap.get? nt = some (lst vs n)) (hsz : vs.size ≤ 1000)
    (k : ∀ t s' u m, (∀ b o, b ≠ nt → s.heap.get? b = some o → s'.heap.get? b = some o) → Same s s' → s'.heap.get? nt = some (lst (vs.push u) m) → PairAt X.l s'.heap u p2 q2 → Q (.int (likeOf lk (g p0 p1 q0 q1)) t) s') :
    wpAny (model prg w) A (call (.ref f) [up, uq]) Q E s := by
  obtain ⟨c1, c2, c3, tl, ⟨h9, doc, pm, c', ctv, e, c9', hcd⟩, ⟨a1, a2, a3⟩, g1, g2, g3⟩ := N
  obtain ⟨n9, _⟩ := I.x _ hX
  -- the frame
  refine wpAny_call (enter_clo (Nat.le_trans hA.2.1 (by omega)) I e rfl hcd rfl (BindsTo.of_eq (binds := [(nP, up), (nQ, uq)]) rfl) (show ∀ x ∈ scN.names, x.2 ≠ .cell by unfold scN; decide) (fun x hx => ?_) rfl rfl rfl rfl rfl fun E' env s₁ hE hcl hL I1 kp sm ns => ?_)
  · simp only [List.mem_cons, List.not_mem_nil, or_false] at hx
    rcases hx with rfl | rfl <;> rfl
  have hE' : EnvIs scN.names env := hE
  have X1 : Ext s s₁ := Ext.of kp sm
  have lv : Lv (d + 1) (A.deeper env) := (Lv.deeper (by omega) A env hA (hA.ok (by omega))).1
  have lo : AOk (A.deeper env) := lv.ok (by omega)
  have L9 : 95 ≤ env.locals := by rw [hL]; exact I.high
  have upc : ∀ {c v}, s.heap.IsCell c v → s₁.heap.IsCell c v := fun ⟨o, h1, h2⟩ => ⟨o, kp _ _ h1, h2⟩
  have H : Has X env s₁.heap [(nP, .list [.int p0, .int p1, .int p2]), (nQ, .list [.int q0, .int q1, .int q2]), (nLikes, .int lk), (nNotes, .val (.ref nt)), (nRel, .val (.ref rel))] :=
    ((((Has.nil.cons (v := .val (.ref rel)) rfl (.inr ⟨.inr ((hE'.k _).trans rfl), c1, by rw [hcl]; rfl, a1, upc g1⟩)).cons (v := .val (.ref nt)) rfl (.inr ⟨.inr ((hE'.k _).trans rfl), c3, by rw [hcl]; rfl, a3, upc g3⟩)).cons (v := .int lk) ⟨tl, rfl⟩ (.inr ⟨.inr ((hE'.k _).trans rfl), c2, by rw [hcl]; rfl, a2, upc g2⟩)).cons (Rep.up X1.lists _ _ rq) (.inl ⟨(hE'.k _).trans rfl, L9, _, ns, rfl⟩)).cons (Rep.up X1.lists _ _ rp) (.inl ⟨(hE'.k _).trans rfl, L9, _, ns, rfl⟩)
  have hn1 := kp _ _ hn
  have R1 : RelIs w s₁.heap rel g := R.ext X1
  have nn : nt ≠ env.locals := by rw [hL]; exact Nat.ne_of_lt (Heap.lt_size hn)
  have hc2 := upc g2
  have hLX : env.locals ∉ X.l := by rw [hL]; exact I.new
  have nbL : X.B env.locals = none := by rw [hL]; exact I.nb get_size
  clear e hcd g1 g2 g3 rp rq hn R I
  have kpN : ∀ b o, b ≠ nt → s.heap.get? b = some o → s₁.heap.get? b = some o ∧ b ≠ env.locals := fun b o _ e => ⟨kp b o e, by rw [hL]; exact Nat.ne_of_lt (Heap.lt_size e)⟩
  delta bdN
  -- the note
  have Ib := I1.but nt
  have Hb := H.but I1 nb
  have i2 : ∀ (x : Str) (a0 a1 a2 : Int) (np : Pos) (kk : Nat) (cp pos : Pos), List.lookup x [(nP, V.list [.int p0, .int p1, .int p2]), (nQ, .list [.int q0, .int q1, .int q2]), (nLikes, .int lk), (nNotes, .val (.ref nt)), (nRel, .val (.ref rel))] = some (.list [.int a0, .int a1, .int a2]) → (x == ("__debug__" : Str) || x == ("__classdict__" : Str)) = false →
      Ev w (Lv (d + 1)) (X.but s₁ nt) scN.names [(nP, .list [.int p0, .int p1, .int p2]), (nQ, .list [.int q0, .int q1, .int q2]), (nLikes, .int lk), (nNotes, .val (.ref nt)), (nRel, .val (.ref rel))] (.Subscript (.Name x np) (.Constant (.int 2) kk cp) pos) (.int a2) :=
    fun x a0 a1 a2 np kk cp pos h hd => ev_item (ev_name h hd) ev_int (by decide) (by decide) rfl (fun _ _ => rfl)
  refine wpAny_execs_cons (wpAny_Expr ?_ (by unfold interactive; rw [hE'.kind]; rfl) rfl)
  refine wpAny_Call_append rfl rfl rfl rfl (ev_name rfl rfl env _ s₁ _ _ lv lo hE' Ib Hb fun u s2 I2 X2 r2 => ?_)
  obtain rfl : u = .ref nt := r2
  have tl2 : tagOf (lst vs n) ≠ 3 := by show (2 : Nat) ≠ 3; decide
  have hn2 := X2.keep _ _ n9 tl2 hn1
  refine ⟨nt, vs, rfl, ⟨_, n, hn2, (by rw [lst_is]), (by rw [lst_is]), (by rw [lst_is])⟩, ?_⟩
  refine ev_list (evl_cons (i2 nP p0 p1 p2 _ _ _ _ rfl rfl) (evl_cons (i2 nQ q0 q1 q2 _ _ _ _ rfl rfl) evl_nil (fun _ => rfl)) (fun _ => rfl)) (by simp) env _ s2 _ _ lv lo hE' I2 (Hb.up X2) fun y s3 I3 X3 r3 => ?_
  have hn3 := X3.keep _ _ n9 tl2 hn2
  rw [lst_is] at hn3
  refine append_at hn3 (fun h4 sb hn4 => ?_) (by unfold sizeLine; omega)
  rw [← lst_is] at hn3 hn4
  have k13 := but_keeps I3
  have k34 : ∀ b o, b ≠ nt → s3.heap.get? b = some o → h4.get? b = some o := fun b o hb e => sb.extBut b o hb e
  have k4 : ∀ b o, b ≠ nt → s₁.heap.get? b = some o → h4.get? b = some o := fun b o hb e => k34 b o hb (k13 b o hb e)
  have r4 : PairAt X.l h4 y p2 q2 := (pair_of r3).up fun e o _ ex g _ => k34 e o (fun q => ex (q ▸ hX)) g
  have sm3 : Same s s3 := (X1.trans (X2.trans X3)).same
  generalize hs4 : ({ s3 with heap := h4 } : Shared) = s4
  have e4 : s4.heap = h4 := by rw [← hs4]
  have sm4 : Same s s4 := by rw [← hs4]; exact sm3
  have I4 : Inv w X s4 := I1.note hX nb hn1 (by rw [e4]; exact hn4) (by rw [e4]; exact k4)
  rw [← e4] at hn4 k34 k4 r4
  have H4 := H.note hX hn1 k4
  have R4 : RelIs w s4.heap rel g := R1.up fun b o h9 t3 t2 e => k4 b o (fun q => t2 (by rw [q, hn1] at e; cases e; rfl)) e
  clear hs4 sb hn3 hn2 r3 I3 X3 X2 I2 k13 k34 Hb Ib
  -- the answer
  obtain ⟨of, fdf, hof, kof⟩ := R4.fn
  refine wpAny_execs_cons (wpAny_Assign_Name (callV_wp (φ := Lv (d + 1)) (X := X.all s4) (vs := [.list [.int p0, .int p1, .int p2], .list [.int q0, .int q1, .int q2]]) rfl rfl hof (fun _ => rfl) (evl_cons (ev_name rfl rfl) (evl_cons (ev_name rfl rfl) evl_nil (fun _ => rfl)) (fun _ => rfl)) lv lo hE' I4.all (H4.all I4) (fun s' I' X' => kof _ s' I' X') fun us s5 I5 X5 r5 => ?_) rfl)
  obtain ⟨u1, u2, rfl, r1, r2⟩ := two_arg r5
  refine rel_wp (d := d + 1) (by omega) lv I5 (R4.ext X5) r1 r2 fun t s6 k56 sm56 => ?_
  have k46 : ∀ b o, s4.heap.get? b = some o → s6.heap.get? b = some o := fun b o e => k56 b o (I5.bs b o e)
  have n6 : s6.heap.Ns env.locals _ := ns_off ns fun o e => k46 _ _ (k4 _ _ (Ne.symm nn) e)
  have hc6 : s6.heap.IsCell c2 (some (.int lk tl)) := by
    obtain ⟨o, h1, h2⟩ := hc2
    exact ⟨o, k46 _ _ (k4 _ _ (fun q => by rw [q, hn1] at h1; cases h1; cases h2) h1), h2⟩
  have I6 : Inv w X s6 := I4.of k46
  refine wpAny_storeName_local ((hE'.k _).trans rfl) n6 (fun h7 n7 sb => ?_) (by rw [hE'.kind]; rfl)
  obtain ⟨oL, eL, tL⟩ := ns_tag n6
  have k67 : ∀ b o, b ≠ env.locals → s6.heap.get? b = some o → h7.get? b = some o := fun b o hb e => sb.extBut b o hb e
  have hc7 : h7.IsCell c2 (some (.int lk tl)) := by
    obtain ⟨o, h1, h2⟩ := hc6
    refine ⟨o, k67 _ _ (fun q => ?_) h1, h2⟩
    rw [q, eL] at h1; cases h1
    unfold tagOf at tL; rw [h2] at tL; cases tL
  have sm7 : Same s { s6 with heap := h7, toks := s6.toks + 1 } := ⟨(sm4.trans (X5.same.trans sm56)).1, (sm4.trans (X5.same.trans sm56)).2⟩
  have I7 : Inv w X { s6 with heap := h7, toks := s6.toks + 1 } := I6.touch (s' := { s6 with heap := h7, toks := s6.toks + 1 }) L9 eL (soft_of3 tL) (fun m => absurd m hLX) nbL (fun _ => ns_tag n7) k67
  have kf : ∀ b o, b ≠ nt → s.heap.get? b = some o → h7.get? b = some o := fun b o hb e => k67 b o (kpN b o hb e).2 (k46 b o (k4 b o hb (kpN b o hb e).1))
  have hn7 := k67 _ _ nn (k46 _ _ hn4)
  have r7 : PairAt X.l h7 y p2 q2 := r4.up fun e o _ ex g t => k67 _ _ (fun q => by
    have g6 := k46 _ _ g
    rw [q, eL] at g6; cases g6
    rw [tL] at t; cases t) (k46 _ _ g)
  have H7 : Has (X.all { s6 with heap := h7, toks := s6.toks + 1 }) env h7 [(nAns, .int (g p0 p1 q0 q1)), (nLikes, .int lk)] :=
    (Has.nil.cons (v := .int lk) ⟨tl, rfl⟩ (.inr ⟨.inr ((hE'.k _).trans rfl), c2, by rw [hcl]; rfl, a2, hc7⟩)).cons (v := .int (g p0 p1 q0 q1)) ⟨t, rfl⟩ (.inl ⟨(hE'.k _).trans rfl, L9, _, n7, if_pos rfl⟩)
  -- what is told
  have el : (if (g p0 p1 q0 q1 == 0) = true then lk else g p0 p1 q0 q1) = likeOf lk (g p0 p1 q0 q1) := by unfold likeOf; simp
  refine exec_ret (φ := Lv (d + 1)) lv lo hE' I7.all H7 (fun t8 s8 I8 X8 => ?_) (ev_ifInt (tr_cmp (ev_name rfl rfl) ev_int cmp_eq rfl) (fun _ => ev_name rfl rfl) (fun _ => ev_name rfl rfl))
  rw [el]
  have k78 : ∀ b o, h7.get? b = some o → s8.heap.get? b = some o := I8.bs
  exact k t8 s8 y (n + 1) (fun b o hb e => k78 _ _ (kf b o hb e)) (sm7.trans X8.same) (k78 _ _ hn7) (r7.up fun e o _ _ g _ => k78 _ _ g)
end Vl
end
section
open PySem PySem.W PySem.W.X PyProof.Rows
set_option Elab.async false
set_option maxRecDepth 100000
set_option maxHeartbeats 2000000
set_option linter.unusedVariables false
namespace Vl
open Mine Lean Meta Elab Tactic
variable {w : World} {X : Av} {φ : Around → Prop} {K : List (Str × NameKind)} {ρ : List (Str × V)}
def nSelf : Str := ⟨#[115, 101, 108, 102]⟩
def nOther : Str := ⟨#[111, 116, 104, 101, 114]⟩
section
variable {f : Addr} {a : Nat → Addr} {τ : Nat → Nat} {h : Heap}
theorem k60 (F : Facts h (kRel w f a τ)) : h.get? (a 60) = some (excClassObj ⟨#[75]⟩ qK (a 60) (a 59) [.type "object"] [.type "object"] false [nObj] [] false none none (some (.ref (a 2))) none (some (.str ⟨#[75]⟩ (τ 0))) (some (.str qK (τ 9))) (some (.bool false)) "object.__new__") := F.1
noncomputable def o59 (w : World) (f : Addr) (a : Nat → Addr) (τ : Nat → Nat) : Obj := match (kRel w f a τ).tail with | p :: _ => p.2 | [] => lst #[] 0
theorem k59 (F : Facts h (kRel w f a τ)) : h.Ns (a 59) (nsOf (o59 w f a τ)) := nsOf_ns (a := a 59) F.2.1 (by kernel_rfl)
theorem k59lt : nsOf (o59 w f a τ) nLt = some (.ref (a 24)) := by kernel_rfl
theorem k59ga : nsOf (o59 w f a τ) "__getattribute__" = none := by kernel_rfl
theorem k24 (F : Facts h (kRel w f a τ)) : ∃ pm ct, h.get? (a 24) = some { cls := .type "function", data := .func (fnX nLt qLt paLt bdLt scLt [(nMy, a 1)] .none .none .none pm none (.ref (a 23)) ct) } := ⟨_, _, F.2.2.2.2.2.2.1⟩
theorem k23 (F : Facts h (kRel w f a τ)) : h.CodeRec (.ref (a 23)) qLt := ⟨_, _, _, _, rfl, F.2.2.2.2.2.1, rfl, rfl⟩
theorem k1 (F : Facts h (kRel w f a τ)) : h.IsCell (a 1) (some (.ref f)) := ⟨_, F.2.2.2.2.2.2.2.1, rfl⟩
end
theorem lk_object_lt : typeLookup (.type "object") nLt = pure (some (.builtin "object.__lt__")) := by rw [typeLookup_type, builtinLookup_eq_fast]; kernel_rfl
theorem own_lt {f i dx p : Addr} {a : Nat → Addr} {τ : Nat → Nat} {h : Heap} (F : Facts h (kRel w f a τ)) (hi : h.get? i = some (inst (a 60) dx p)) : h.OwnSpecial i (a 60) (a 24) "object" nLt := by
  obtain ⟨pm, ct, e⟩ := k24 F
  exact ⟨_, _, _, _, _, _, _, _, _, _, _, _, _, _, _, _, _, _, _, _, _, hi, rfl, k60 F, k59 F, k59lt, e, rfl, PySem.F.mro_object, lk_object_lt⟩
/-- a slot read -/
theorem slot_wp {d : Nat} (hd : d < 600) {A : Around} {s : Shared} {Q : Value → Shared → Prop} {E : Value → Shared → Prop} (hA : Lv d A) (I : Inv w X s) {f i dx p : Addr} {a : Nat → Addr} {τ : Nat → Nat} (F : Facts s.heap (kRel w f a τ)) (hi : s.heap.get? i = some (inst (a 60) dx p))
    (k : ∀ s', (∀ b o, s.heap.get? b = some o → s'.heap.get? b = some o) → Same s s' → Q (.ref p) s') : wpAny (model prg w) A (getAttr (.ref i) nObj true) Q E s := by
  obtain ⟨h, g, dd, t, os⟩ := s
  have hC := k60 F
  have hn := k59 F
  unfold getAttr getAttrBy
  repeat (first | (with_reducible refine wpAny_loadPart_at hi ?_; rw [show (inst (a 60) dx p).cls = .ref (a 60) from rfl]) | (with_reducible refine wpAny_typeLookup_exc hC hn PySem.F.mro_object PySem.F.lk_object_ga ?_; rw [k59ga]) | wp_step)
  show wpAny _ _ ((runValue (.builtin "proto.getattr_hooked" ⟨[.ref i, .str nObj t], []⟩)).onRaise (noteIf true (.ref i) (.str nObj t))) _ _ _
  refine wpAny_onRaise (wpAny_runValue (codeAny_mono (weaken (obj_code w ⟨h, g, dd, t + 1, os⟩ I.kt f i dx p a τ F hi t) hA.1 (Nat.ble_eq_true_of_le (Nat.le_trans hA.2.1 (by show d ≤ 900; omega))) rfl rfl (Nat.ble_eq_true_of_le (Nat.le_trans hA.2.2 (by show 4 * d ≤ 6000; omega)))) fun r s' hq => ?_))
  obtain ⟨rfl, kp, sm⟩ := hq
  show wpAny _ _ (handedOut (.ref p)) _ _ _
  exact wpAny_pure (k s' (fun b o e => kp b o e List.not_mem_nil) sm)
theorem attr_wp {d : Nat} (hd : d < 600) {env : Env} {A : Around} {s : Shared} {Q : Value → Shared → Prop} {E : Value → Shared → Prop} (hA : Lv d A) (hE : EnvIs K env) (I : Inv w X s) (H : Has X env s.heap ρ) {x : Str} {np pos : Pos} {f i dx p : Addr} {a : Nat → Addr} {τ : Nat → Nat} (F : Facts s.heap (kRel w f a τ)) (hi : s.heap.get? i = some (inst (a 60) dx p))
    (hx : ρ.lookup x = some (.val (.ref i))) (hd' : (x == ("__debug__" : Str) || x == ("__classdict__" : Str)) = false)
    (k : ∀ s', (∀ b o, s.heap.get? b = some o → s'.heap.get? b = some o) → Same s s' → Q (.ref p) s') : wpAny (model prg w) A (eval (.Attribute (.Name x np) nObj pos) env) Q E s := by
  rw [arm_eval_Attribute]
  refine wpAny_bind (ev_name (φ := Lv d) hx hd' env A s _ E hA (hA.ok (by omega)) hE I.all (H.all I) fun u s1 I1 X1 r1 => ?_)
  obtain rfl : u = .ref i := r1
  refine wpAny_bind (wpAny_standAt (wpAny_bind (wpAny_holding (slot_wp hd hA I1 (F.of fun q _ e => I1.bs _ _ e) (I1.bs _ _ hi) fun s2 kp sm => ?_))))
  exact wpAny_bind (wpAny_pure (wpAny_pure (k s2 (fun b o e => kp b o (I1.bs b o e)) (X1.same.trans sm))))
end Vl
end
section
open PySem PySem.W PySem.W.X PyProof.Rows
set_option Elab.async false
set_option maxRecDepth 100000
set_option maxHeartbeats 2000000
set_option linter.unusedVariables false
namespace Vl
open Mine
variable {w : World} {X : Av} {φ : Around → Prop} {K : List (Str × NameKind)} {ρ : List (Str × V)}
/-- K.__lt__ -/
theorem lt_wp {d : Nat} (hd : d < 560) {A : Around} {s : Shared} {Q : Value → Shared → Prop} {E : Value → Shared → Prop} (hA : Lv d A) (I : Inv w X s) {nt f rel : Addr} {lk : Int} (hX : nt ∈ X.l) (nb : X.B nt = none) {a : Nat → Addr} {τ : Nat → Nat} (FK : Facts s.heap (kRel w f a τ)) (a1 : 95 ≤ a 1)
    (N : Noted w s.heap f rel nt lk) {g : Int → Int → Int → Int → Int} (R : RelIs w s.heap rel g) {i1 i2 dx1 dx2 p q : Addr} (h1 : s.heap.get? i1 = some (inst (a 60) dx1 p)) (h2 : s.heap.get? i2 = some (inst (a 60) dx2 q))
    {p0 p1 p2 q0 q1 q2 : Int} (rp : Rep X s.heap (.list [.int p0, .int p1, .int p2]) (.ref p)) (rq : Rep X s.heap (.list [.int q0, .int q1, .int q2]) (.ref q)) {vs : Array Value} {n : Nat} (hn : s.heap.get? nt = some (lst vs n)) (hsz : vs.size ≤ 1000)
    (k : ∀ s' u m, (∀ b o, b ≠ nt → s.heap.get? b = some o → s'.heap.get? b = some o) → Same s s' → s'.heap.get? nt = some (lst (vs.push u) m) → PairAt X.l s'.heap u p2 q2 → Q (.bool (decide (likeOf lk (g p0 p1 q0 q1) < 0))) s') :
    wpAny (model prg w) A (compareOp .Lt (.ref i1) (.ref i2)) Q E s := by
  obtain ⟨c1, c2, c3, tl, ⟨h9, doc, pm, c', ctv, e, c9', hcd⟩, _⟩ := id N
  obtain ⟨pm', ct', e24⟩ := k24 FK
  obtain ⟨h, gg, dd, t, os⟩ := s
  refine compareOp_own_same (op := .Lt) (sym := "<") (f := nLt) (r := "__gt__") (by kernel_rfl) ⟨nofun, nofun, nofun, nofun⟩ (own_lt FK h1) h2 rfl (by have := hA.2.2; show A.units < cLine; unfold cLine; omega) ?_
  refine wpAny_call (enter_clo (Nat.le_trans hA.2.1 (by omega)) I e24 rfl (k23 FK) rfl (BindsTo.of_eq (binds := [(nSelf, .ref i1), (nOther, .ref i2)]) rfl) (show ∀ x ∈ scLt.names, x.2 ≠ .cell by unfold scLt; decide) (fun x hx => ?_) rfl rfl rfl rfl rfl fun E' env s₁ hE hcl hL I1 kp sm ns => ?_)
  · simp only [List.mem_cons, List.not_mem_nil, or_false] at hx
    rcases hx with rfl | rfl <;> rfl
  have hE' : EnvIs scLt.names env := hE
  have lv : Lv (d + 1) (A.deeper env) := (Lv.deeper (by omega) A env hA (hA.ok (by omega))).1
  have lo : AOk (A.deeper env) := lv.ok (by omega)
  have L9 : 95 ≤ env.locals := by rw [hL]; exact I.high
  have H : Has X env s₁.heap [(nSelf, .val (.ref i1)), (nOther, .val (.ref i2)), (nMy, .val (.ref f))] :=
    ((Has.nil.cons (v := .val (.ref f)) rfl (.inr ⟨.inr ((hE'.k _).trans rfl), a 1, by rw [hcl]; rfl, a1, let ⟨o, h1, h2⟩ := k1 FK; ⟨o, kp _ _ h1, h2⟩⟩)).cons (v := .val (.ref i2)) rfl (.inl ⟨(hE'.k _).trans rfl, L9, _, ns, rfl⟩)).cons (v := .val (.ref i1)) rfl (.inl ⟨(hE'.k _).trans rfl, L9, _, ns, rfl⟩)
  have FK1 : Facts s₁.heap (kRel w f a τ) := FK.of fun q _ e => kp _ _ e
  have up : ∀ {s' : Shared}, (∀ b o, s₁.heap.get? b = some o → s'.heap.get? b = some o) → ∀ b o, h.get? b = some o → s'.heap.get? b = some o := fun k' b o e => k' b o (kp b o e)
  delta bdLt
  refine wpAny_execs_cons (wpAny_Return_some (wpAny_Compare1 ?_ rfl))
  refine wpAny_Call_ofName (ev_name (φ := Lv (d + 1)) rfl rfl env _ s₁ _ _ lv lo hE' I1.all (H.all I1) fun u s2 I2 X2 r2 => ?_)
  obtain rfl : u = .ref f := r2
  refine Calls.callWith_function (o := fnMade nTold qToldN paN bdN scN [(nRel, c1), (nNotes, c3), (nLikes, c2)] doc pm c' ctv) (fd := fnX nTold qToldN paN bdN scN [(nRel, c1), (nNotes, c3), (nLikes, c2)] .none .none doc pm none (.ref c') ctv) ?_
  refine Calls.evalArgs_plain (x := eval (.Attribute (.Name nSelf _) nObj _) env) (rest := [(false, eval (.Attribute (.Name nOther _) nObj _) env)]) (Calls.spliced_cons ?_)
  have k2 : ∀ b o, s₁.heap.get? b = some o → s2.heap.get? b = some o := I2.bs
  have I2' : Inv w X s2 := I1.of k2
  refine attr_wp (d := d + 1) (by omega) lv hE' I2' (H.up X2) (FK1.of fun q _ e => k2 _ _ e) (k2 _ _ (kp _ _ h1)) rfl rfl fun s3 k3 sm3 => ?_
  have I3 : Inv w X s3 := I2'.of k3
  have X3 : Ext s2 s3 := Ext.of k3 sm3
  refine Calls.spliced_cons (attr_wp (d := d + 1) (by omega) lv hE' I3 (H.up (X2.trans X3)) (FK1.of fun q _ e => k3 _ _ (k2 _ _ e)) (k3 _ _ (k2 _ _ (kp _ _ h2))) rfl rfl fun s4 k4 sm4 => ?_)
  have kk : ∀ b o, h.get? b = some o → s4.heap.get? b = some o := fun b o e => k4 _ _ (k3 _ _ (k2 _ _ (kp _ _ e)))
  have sm14 : Same ⟨h, gg, dd, t, os⟩ s4 := sm.trans (X2.same.trans (sm3.trans sm4))
  have X4 : Ext ⟨h, gg, dd, t, os⟩ s4 := Ext.of kk sm14
  have I4 : Inv w X s4 := I3.of k4
  refine Calls.spliced_nil ⟨⟨kk _ _ e, rfl⟩, ?_⟩
  refine told_wp (d := d + 1) (by omega) lv I4 hX nb (N.up fun b o _ _ _ e => kk b o e) (R.ext X4) (Rep.up X4.lists _ _ rp) (Rep.up X4.lists _ _ rq) (kk _ _ hn) hsz fun t5 s5 u m k5 sm5 hn5 r5 => ?_
  have k15 : ∀ b o, b ≠ nt → h.get? b = some o → s5.heap.get? b = some o := fun b o hb e => k5 b o hb (kk b o e)
  have I5 : Inv w X s5 := I4.note hX nb (kk _ _ hn) hn5 k5
  refine ev_int (φ := Lv (d + 1)) (ρ := []) env _ s5 _ _ lv lo hE' I5.all Has.nil fun u6 s6 I6 X6 r6 => ?_
  obtain ⟨t6, rfl⟩ := r6
  refine cmp_lt (X := X.all s5) _ s6 _ _ _ _ lo I6 ⟨t5, rfl⟩ ⟨t6, rfl⟩ fun s7 I7 X7 => ?_
  have k57 : ∀ b o, s5.heap.get? b = some o → s7.heap.get? b = some o := I7.bs
  exact ⟨_, rfl, k s7 u m (fun b o hb e => k57 _ _ (k15 b o hb e)) (sm14.trans (sm5.trans (X6.trans X7).same)) (k57 _ _ hn5) (r5.up fun _ _ _ _ g _ => k57 _ _ g)⟩
end Vl
end
section
open PySem PySem.W PySem.W.X PyProof.Rows
set_option Elab.async false
set_option maxRecDepth 100000
set_option maxHeartbeats 4000000
set_option linter.unusedVariables false
namespace Vl
open Mine Lean Meta Elab Tactic
variable {w : World} {X : Av} {φ : Around → Prop} {K : List (Str × NameKind)} {ρ : List (Str × V)}
noncomputable def fd32 : FuncData := by run_tac fnLit 32 pure
noncomputable def fd23 : FuncData := by run_tac fnLit 23 pure
def nA : Str := ⟨#[97]⟩
def nX : Str := ⟨#[120]⟩
def nLo : Str := ⟨#[108, 111]⟩
def nHi : Str := ⟨#[104, 105]⟩
def nKey : Str := ⟨#[107, 101, 121]⟩
def nMid : Str := ⟨#[109, 105, 100]⟩
noncomputable def oAt (w : World) (n : Nat) : Obj := match (kt w.params).get n with | some o => o | none => lst #[] 0
theorem in2 {h : Heap} (I : KtIn (kt w.params) h) {a b : Nat} (ha : (kt w.params).get a = some (oAt w a)) (hb : (kt w.params).get b = some (oAt w b)) : Frag.In [(a, oAt w a), (b, oAt w b)] h := fun c o e => by
  rw [List.lookup_cons] at e
  cases q : c == a with
  | true =>
    rw [q] at e
    have : c = a := by simpa using q
    subst this
    cases e
    exact I _ _ ha
  | false =>
    rw [q, List.lookup_cons] at e
    cases q2 : c == b with
    | true =>
      rw [q2] at e
      have : c = b := by simpa using q2
      subst this
      cases e
      exact I _ _ hb
    | false => rw [q2] at e; cases e
theorem bind32 {s : Shared} (I : KtIn (kt w.params) s.heap) (a x l h kv : Value) : BindsTo s fd32 ⟨[a, x, l, h], [(nKey, kv)]⟩ [(nA, a), (nX, x), (nLo, l), (nHi, h), (nKey, kv)] :=
  kp_binds (in2 (a := 24) (b := 25) I rfl rfl) fun S => by rfl
theorem bind23 {s : Shared} (I : KtIn (kt w.params) s.heap) (a x l h kv : Value) : BindsTo s fd23 ⟨[a, x, l, h], [(nKey, kv)]⟩ [(nA, a), (nX, x), (nLo, l), (nHi, h), (nKey, kv)] :=
  kp_binds (in2 (a := 15) (b := 16) I rfl rfl) fun S => by rfl
/-- a class called -/
theorem callWith_c {A : Around} {env : Env} {pos : Pos} {e : PySem.Expr} {rest : List PySem.Expr} {C : Addr} {E : Value → Shared → Prop} {s : Shared} {Q : Value → Shared → Prop}
    (h : wpAny (model prg w) A (spliced (backTo pos (starEach (e :: rest) env))) (fun vs s₁ => (∃ d cd sl, s₁.heap.get? C = some ⟨.type "type", d, .cls cd, sl⟩) ∧ wpAny (model prg w) A (call (.ref C) vs) Q E s₁) E s)
    (he : starEach (e :: rest) env = (false, eval e env) :: starEach rest env)
    (hplain : (backTo pos (starEach rest env)).any (·.1) = false) :
    wpAny (model prg w) A (callWith pos (.ref C) [] (backTo pos (starEach (e :: rest) env)) []) Q E s := by
  rw [he] at h ⊢
  have hst : ((backTo pos ((false, eval e env) :: starEach rest env)).any (fun x => x.fst) || ([] : List (Option Str × Sem Value)).any fun x => x.fst.isNone) = false := by
    show ((false || (backTo pos (starEach rest env)).any (·.1)) || false) = false
    rw [hplain]; rfl
  unfold callWith
  refine wpAny_bind (wpAny_holding (Calls.evalArgs_plain (wpAny_mono h (fun vs s₁ h₁ => ?_) fun _ _ x => x)))
  obtain ⟨hh, g, d, t, os⟩ := s₁
  obtain ⟨⟨dC, cd, sl, hC⟩, h₂⟩ := h₁
  have f1 := tc_lookup
  have hT : (⟨hh, g, d, t, os⟩ : Shared).TypeIs (.ref C) "type" := ⟨_, hC, rfl⟩
  refine wpAny_bind (wpAny_standAt ?_)
  show wpAny _ _ (keeperOf (.ref C) >>= _) _ _ _
  unfold keeperOf specialOf
  repeat (any_goals (first | assumption | with_reducible refine wpAny_loadPart_at hC ?_ | with_reducible refine wpAny_load' hC ?_ | wp_step))
  rw [if_pos (by rfl), hst]
  show wpAny _ _ (call (.ref C) vs [] >>= fun r => do holding [r] point; pure r) _ _ _
  exact wpAny_bind (wpAny_mono h₂ (fun r s' hr => wpAny_bind (wpAny_holding (wpAny_point (wpAny_pure hr)))) fun _ _ x => x)
theorem kRel_tag (w : World) (f : Addr) (a : Nat → Addr) (τ : Nat → Nat) : ∀ p ∈ kRel w f a τ, tagOf p.2 ≠ 2 := by
  have h : (kRel w f a τ).all (fun p => !(Nat.beq (tagOf p.2) 2)) = true := by kernel_rfl
  intro p hp e
  have := List.all_eq_true.mp h p hp
  rw [e] at this
  cases this
theorem cls60 {f : Addr} {a : Nat → Addr} {τ : Nat → Nat} {h : Heap} (F : Facts h (kRel w f a τ)) : ∃ d cd sl, h.get? (a 60) = some ⟨.type "type", d, .cls cd, sl⟩ := ⟨_, _, _, k60 F⟩
/-- key(..): a new K -/
theorem knew_wp {d : Nat} (hd : d < 600) {env : Env} {A : Around} {s : Shared} {Q : Value → Shared → Prop} {E : Value → Shared → Prop} (hA : Lv d A) (hE : EnvIs K env) (I : Inv w X s) (H : Has X env s.heap ρ) {f : Addr} {a : Nat → Addr} {τ : Nat → Nat} (F : Facts s.heap (kRel w f a τ))
    (hk : ρ.lookup nKey = some (.val (.ref (a 60)))) {e : PySem.Expr} {l : List V} {np pos : Pos} (he : Ev w (Lv d) (X.all s) K ρ e (.list l)) (hs : ∀ env, starEach [e] env = [(false, eval e env)])
    (k : ∀ i dx o s', (∀ b o, s.heap.get? b = some o → s'.heap.get? b = some o) → Same s s' → Rep (X.all s) s'.heap (.list l) (.ref o) → s'.heap.get? i = some (inst (a 60) dx o) → Q (.ref i) s') :
    wpAny (model prg w) A (eval (.Call (.Name nKey np) [e] [] pos) env) Q E s := by
  have lo := hA.ok (by omega)
  refine wpAny_Call_ofName (ev_name (φ := Lv d) hk rfl env A s _ E hA lo hE I.all (H.all I) fun u s1 I1 X1 r1 => ?_)
  obtain rfl : u = .ref (a 60) := r1
  refine callWith_c ?_ (by rw [hs]; rfl) rfl
  rw [hs]
  refine Calls.spliced_cons (he env A s1 _ E hA lo hE I1 ((H.all I).up X1) fun u s2 I2 X2 r2 => ?_)
  have F2 : Facts s2.heap (kRel w f a τ) := F.of fun q _ e => I2.bs _ _ e
  refine Calls.spliced_nil ⟨cls60 F2, ?_⟩
  obtain ⟨o, vs, n, rfl, q⟩ := id r2
  refine wpAny_call (codeAny_mono (weaken (new_call w s2 I2.kt f o a τ F2) hA.1 (Nat.ble_eq_true_of_le (Nat.le_trans hA.2.1 (by show d ≤ 900; omega))) rfl rfl (Nat.ble_eq_true_of_le (Nat.le_trans hA.2.2 (by show 4 * d ≤ 6000; omega)))) fun r s3 hq => ?_)
  obtain ⟨i, dx, rfl, ei, ni, kp, sm⟩ := hq
  have k23 : ∀ b o, s2.heap.get? b = some o → s3.heap.get? b = some o := fun b o e => kp b o e List.not_mem_nil
  exact k i dx o s3 (fun b o e => k23 b o (I2.bs b o e)) ((X1.trans X2).same.trans sm) (Rep.up (Ext.of k23 sm).lists _ _ r2) ei
end Vl
end
section
open PySem PySem.W PySem.W.X PyProof.Rows
set_option Elab.async false
set_option maxRecDepth 100000
set_option maxHeartbeats 4000000
set_option linter.unusedVariables false
namespace Vl
open Mine
variable {w : World} {X : Av} {φ : Around → Prop} {K : List (Str × NameKind)} {ρ : List (Str × V)}
/-- the row of things, as data -/
def rowV (c0 c1 : Nat → Int) (n : Nat) : List V := (List.range n).map fun k => .list [.int (c0 k), .int (c1 k), .int (k : Int)]
def pairV (p : Int × Int) : V := .list [.int p.1, .int p.2]
def NotesAt (l : List Addr) (h : Heap) : List Value → List (Int × Int) → Prop
  | [], [] => True
  | v :: vs, p :: L => PairAt l h v p.1 p.2 ∧ NotesAt l h vs L
  | [], _ :: _ => False
  | _ :: _, [] => False
theorem NotesAt.up {l : List Addr} {h h' : Heap} (k : ∀ e o, 95 ≤ e → e ∉ l → h.get? e = some o → tagOf o = 2 → h'.get? e = some o) : ∀ {vs : List Value} {L : List (Int × Int)}, NotesAt l h vs L → NotesAt l h' vs L
  | [], [], _ => True.intro
  | _ :: _, _ :: _, ⟨p, r⟩ => ⟨p.up k, NotesAt.up k r⟩
theorem NotesAt.snoc {l : List Addr} {h : Heap} {u : Value} {a b : Int} (p : PairAt l h u a b) : ∀ {vs : List Value} {L : List (Int × Int)}, NotesAt l h vs L → NotesAt l h (vs ++ [u]) (L ++ [(a, b)])
  | [], [], _ => ⟨p, True.intro⟩
  | _ :: _, _ :: _, ⟨q, r⟩ => ⟨q, NotesAt.snoc p r⟩
theorem NotesAt.rep {h : Heap} : ∀ {vs : List Value} {L : List (Int × Int)}, NotesAt X.l h vs L → RepL X h (L.map pairV) vs
  | [], [], _ => rfl
  | v :: vs, p :: L, ⟨q, r⟩ => ⟨v, vs, rfl, q.rep, NotesAt.rep r⟩
theorem three {h : Heap} {a b c : Int} {u : Value} (r : Rep X h (.list [.int a, .int b, .int c]) u) : ∃ t t0 t1 t2 m, u = .ref t ∧ 95 ≤ t ∧ t ∉ X.l ∧ h.get? t = some (lst #[.int a t0, .int b t1, .int c t2] m) := by
  obtain ⟨t, vs, m, rfl, t9, tx, g, q⟩ := r
  obtain ⟨v0, r0, e0, ⟨t0, rfl⟩, v1, r1, e1, ⟨t1, rfl⟩, v2, r2, e2, ⟨t2, rfl⟩, rfl⟩ := q
  have : vs = #[.int a t0, .int b t1, .int c t2] := by apply Array.ext'; rw [e0, e1, e2]
  exact ⟨t, t0, t1, t2, m, rfl, t9, tx, this ▸ g⟩
theorem three_rep {h : Heap} {a b c : Int} {t : Addr} {t0 t1 t2 m : Nat} (t9 : 95 ≤ t) (tx : t ∉ X.l) (g : h.get? t = some (lst #[.int a t0, .int b t1, .int c t2] m)) : Rep X h (.list [.int a, .int b, .int c]) (.ref t) :=
  ⟨t, _, m, rfl, t9, tx, g, _, _, rfl, ⟨t0, rfl⟩, _, _, rfl, ⟨t1, rfl⟩, _, _, rfl, ⟨t2, rfl⟩, rfl⟩
/-- what a bisect stands on, in the state of its call -/
structure Gnd (w : World) (X : Av) (s : Shared) (nt f rel xi so row : Addr) (lk : Int) (a : Nat → Addr) (τ : Nat → Nat) (g : Int → Int → Int → Int → Int) (c0 c1 : Nat → Int) (n : Nat) (q0 q1 q2 : Int) : Prop where
  I : Inv w X s
  hX : nt ∈ X.l
  nb : X.B nt = none
  hn : ∃ vs m, s.heap.get? nt = some (lst vs m)
  K : Facts s.heap (kRel w f a τ)
  a1 : 95 ≤ a 1
  N : Noted w s.heap f rel nt lk
  R : RelIs w s.heap rel g
  hx : ∃ dx, s.heap.get? xi = some (inst (a 60) dx so)
  rq : Rep X s.heap (.list [.int q0, .int q1, .int q2]) (.ref so)
  rr : Rep X s.heap (.list (rowV c0 c1 n)) (.ref row)
variable {s : Shared} {nt f rel xi so row : Addr} {lk : Int} {a : Nat → Addr} {τ : Nat → Nat} {g : Int → Int → Int → Int → Int} {c0 c1 : Nat → Int} {n : Nat} {q0 q1 q2 : Int}
theorem Gnd.off (G : Gnd w X s nt f rel xi so row lk a τ g c0 c1 n q0 q1 q2) {s' : Shared} (I' : Inv w (X.but s nt) s') : ∀ b o, tagOf o ≠ 2 → s.heap.get? b = some o → s'.heap.get? b = some o := fun b o t e => but_keeps I' b o (fun q => by
  obtain ⟨vs, m, h⟩ := G.hn
  rw [q, h] at e; cases e; exact t rfl) e
/-- the row's item against what is sought; the item noted first, or last -/
theorem test_wp {d : Nat} (hd : d < 540) {env : Env} {A : Around} {s1 : Shared} {Q : Bool → Shared → Prop} {E : Value → Shared → Prop} (G : Gnd w X s nt f rel xi so row lk a τ g c0 c1 n q0 q1 q2) (first : Bool) (hA : Lv d A) (hE : EnvIs K env) (I : Inv w (X.but s nt) s1) (H : Has (X.but s nt) env s1.heap ρ)
    {mid : Nat} (hmid : mid < n) (hn80 : n ≤ 1000) (h1 : ρ.lookup nA = some (.list (rowV c0 c1 n))) (h2 : ρ.lookup nX = some (.val (.ref xi))) (h3 : ρ.lookup nKey = some (.val (.ref (a 60)))) (h4 : ρ.lookup nMid = some (.int mid)) {vs : Array Value} {nn : Nat} (hnt : s1.heap.get? nt = some (lst vs nn)) (hsz : vs.size ≤ 1000) {p1 p2 p3 p4 p5 p6 p7 : Pos} {l r : Expr}
    (hl : l = (if first then .Call (.Name nKey p1) [.Subscript (.Name nA p2) (.Name nMid p3) p4] [] p5 else .Name nX p6)) (hr : r = (if first then .Name nX p6 else .Call (.Name nKey p1) [.Subscript (.Name nA p2) (.Name nMid p3) p4] [] p5))
    (hm : behindInMarks .Lt r = false)
    (k : ∀ s' u m, Inv w (X.but s nt) s' → (∀ b o, b ≠ nt → s1.heap.get? b = some o → s'.heap.get? b = some o) → Same s1 s' → s'.heap.get? nt = some (lst (vs.push u) m) → PairAt X.l s'.heap u (if first then (mid : Int) else q2) (if first then q2 else (mid : Int)) →
      Q (decide (likeOf lk (if first then g (c0 mid) (c1 mid) q0 q1 else g q0 q1 (c0 mid) (c1 mid)) < 0)) s') :
    wpAny (model prg w) A (isTrue (.Compare l [.Lt] [r] p7) env (eval (.Compare l [.Lt] [r] p7) env)) Q E s1 := by
  have lo := hA.ok (by omega)
  obtain ⟨dx, hx⟩ := G.hx
  have it : ∀ (Y : Av), Ev w (Lv d) (Y) K ρ (.Subscript (.Name nA p2) (.Name nMid p3) p4) (.list [.int (c0 mid), .int (c1 mid), .int mid]) := fun Y =>
    ev_item (ev_name h1 rfl) (ev_name h4 rfl) (by omega) (by omega) (by simp [rowV, hmid]) (fun _ _ => rfl)
  have nbZ : (X.but s nt).B nt = none := if_pos rfl
  -- the end of both ways
  have fin : ∀ (s3 : Shared) (i o dxi : Addr), Inv w (X.but s nt) s3 → (∀ b o, s1.heap.get? b = some o → s3.heap.get? b = some o) → Same s1 s3 → Rep ((X.but s nt)) s3.heap (.list [.int (c0 mid), .int (c1 mid), .int mid]) (.ref o) → s3.heap.get? i = some (inst (a 60) dxi o) →
      wpAny (model prg w) A (compareOp .Lt (.ref (if first then i else xi)) (.ref (if first then xi else i))) (fun v s' => wpAny (model prg w) A (truthy v) Q E s') E s3 := fun s3 i o dxi I3 k13 sm13 r3 ei => by
    have K3 : Facts s3.heap (kRel w f a τ) := G.K.of fun q hq e => G.off I3 _ _ (kRel_tag w f a τ q hq) e
    have N3 : Noted w s3.heap f rel nt lk := G.N.up fun b o _ _ t e => G.off I3 b o t e
    have R3 : RelIs w s3.heap rel g := G.R.up fun b o _ _ t e => G.off I3 b o t e
    have x3 := G.off I3 _ _ (by show (0 : Nat) ≠ 2; decide) hx
    have q3 : Rep (X.but s nt) s3.heap (.list [.int q0, .int q1, .int q2]) (.ref so) := Rep.up (lists_note (X := X.but s nt) G.hX (but_keeps I3)) _ _ (G.rq.but G.I G.nb)
    have n3 := k13 _ _ hnt
    cases first with
    | true =>
      refine lt_wp (by omega) hA I3 G.hX nbZ K3 G.a1 N3 R3 ei x3 r3 q3 n3 hsz fun s' u m k3' sm' hn' pr => wpAny_truthy_bool ?_
      exact k s' u m (I3.note G.hX nbZ n3 hn' k3') (fun b o hb e => k3' b o hb (k13 b o e)) (sm13.trans sm') hn' pr
    | false =>
      refine lt_wp (by omega) hA I3 G.hX nbZ K3 G.a1 N3 R3 x3 ei q3 r3 n3 hsz fun s' u m k3' sm' hn' pr => wpAny_truthy_bool ?_
      exact k s' u m (I3.note G.hX nbZ n3 hn' k3') (fun b o hb e => k3' b o hb (k13 b o e)) (sm13.trans sm') hn' pr
  refine wpAny_isTrue_Compare1 ?_ hm
  cases first with
  | true =>
    subst hl hr
    have K1 : Facts s1.heap (kRel w f a τ) := G.K.of fun q hq e => G.off I _ _ (kRel_tag w f a τ q hq) e
    refine knew_wp (by omega) hA hE I H K1 h3 (it _) (fun _ => rfl) fun i dxi o s2 k12 sm12 r2 ei => ?_
    have I2 := I.of k12
    refine ev_name (φ := Lv d) h2 rfl env A s2 _ E hA lo hE I2.all ((H.up (Ext.of k12 sm12)).all I2) fun u s3 I3 X3 r3 => ?_
    obtain rfl : u = .ref xi := r3
    obtain ⟨t, t0, t1, t2, m, e, t9, tx, gt⟩ := three r2
    cases e
    exact fin s3 i o dxi (I2.of I3.bs) (fun b o e => I3.bs _ _ (k12 b o e)) (sm12.trans X3.same) (three_rep t9 tx (I3.bs _ _ gt)) (I3.bs _ _ ei)
  | false =>
    subst hl hr
    refine ev_name (φ := Lv d) h2 rfl env A s1 _ E hA lo hE I.all (H.all I) fun u s2 I2 X2 r2 => ?_
    obtain rfl : u = .ref xi := r2
    have k12 := I2.bs
    have I2' := I.of k12
    have K2 : Facts s2.heap (kRel w f a τ) := G.K.of fun q hq e => G.off I2' _ _ (kRel_tag w f a τ q hq) e
    refine knew_wp (by omega) hA hE I2' (H.up X2) K2 h3 (it _) (fun _ => rfl) fun i dxi o s3 k23 sm23 r3 ei => ?_
    obtain ⟨t, t0, t1, t2, m, e, t9, tx, gt⟩ := three r3
    cases e
    exact fin s3 i o dxi (I2'.of k23) (fun b o e => k23 _ _ (k12 b o e)) (X2.same.trans sm23) (three_rep t9 tx gt) ei
end Vl
end
section
open PySem PySem.W PySem.W.X PyProof.Rows
set_option Elab.async false
set_option maxRecDepth 100000
set_option maxHeartbeats 4000000
set_option linter.unusedVariables false
namespace Vl
open Mine
variable {w : World} {X : Av} {φ : Around → Prop} {K : List (Str × NameKind)} {ρ : List (Str × V)}
/-- a frame whose list of notes has grown -/
theorem Frm.note {env : Env} {s₀ s s' : Shared} (F : Frm w X env s₀ s ρ) {nt : Addr} {vs : Array Value} {n : Nat} (hX : nt ∈ X.l) (h0 : s₀.heap.get? nt = none) (e : s.heap.get? nt = some (lst vs n)) (I' : Inv w X s') (k : ∀ b o, b ≠ nt → s.heap.get? b = some o → s'.heap.get? b = some o) (sm : Same s s') : Frm w X env s₀ s' ρ where
  I := I'
  H := F.H.note hX e k
  ext := by
    have ne : ∀ b o, s₀.heap.get? b = some o → b ≠ nt := fun b o e q => by rw [q, h0] at e; cases e
    refine ⟨fun b o h9 t e => k b o (ne b o e) (F.ext.keep b o h9 t e), fun L m h9 ns => ?_, fun b o e => ?_, F.ext.same.trans sm⟩
    · obtain ⟨o, eo, _⟩ := ns_tag ns
      exact ns_off (F.ext.ns L m h9 ns) fun o' e' => k _ _ (ne L o eo) e'
    · obtain ⟨o', e'⟩ := F.ext.al b o e
      exact ⟨o', k _ _ (ne b o e) e'⟩
  hi := F.hi
  ox := F.ox
  loc := F.loc
  ns := let ⟨m, ns⟩ := F.ns; ⟨m, ns_off ns fun o' e' => k _ _ (fun q => by
    obtain ⟨o2, e2, t2⟩ := ns_tag ns
    rw [q, e] at e2; cases e2
    exact absurd t2 (by show (2 : Nat) ≠ 3; decide)) e'⟩
  cell := fun y c ec => let ⟨h1, h2, v, o, h3, h4⟩ := F.cell y c ec; ⟨h1, h2, v, o, k _ _ (fun q => by
    rw [q, e] at h3; cases h3; cases h4) h3, h4⟩
  apart := F.apart
variable {s : Shared} {nt f rel xi so row : Addr} {lk : Int} {a : Nat → Addr} {τ : Nat → Nat} {g : Int → Int → Int → Int → Int} {c0 c1 : Nat → Int} {n : Nat} {q0 q1 q2 : Int}
/-- what the names of a bisect are, the loop at lo and hi -/
def rhoB (c0 c1 : Nat → Int) (n : Nat) (xi kc : Addr) (lo hi : Nat) : List (Str × V) := [(nA, .list (rowV c0 c1 n)), (nX, .val (.ref xi)), (nLo, .int lo), (nHi, .int hi), (nKey, .val (.ref kc))]
theorem soft_lists {s s' : Shared} (S : Soft s s') : Lists X s.heap s'.heap := fun b vs n h9 _ e => S.keep b _ h9 (by show (2 : Nat) ≠ 3; decide) (by show (2 : Nat) ≠ 6; decide) e
theorem mid_eq (lo hi : Nat) : ((lo : Int) + (hi : Int)).fdiv 2 = (((lo + hi) / 2 : Nat) : Int) := by
  rw [Int.fdiv_eq_ediv_of_nonneg _ (by decide)]; omega
theorem rhoB_names {xi kc : Addr} {lo hi : Nat} {y : Str} {v : V} (e : (rhoB c0 c1 n xi kc lo hi).lookup y = some v) : y = nA ∨ y = nX ∨ y = nLo ∨ y = nHi ∨ y = nKey := by
  obtain h := PySem.mem_of_lookup e
  simp only [rhoB, List.mem_cons, List.not_mem_nil, or_false, Prod.mk.injEq] at h
  rcases h with h | h | h | h | h
  · exact .inl h.1
  · exact .inr (.inl h.1)
  · exact .inr (.inr (.inl h.1))
  · exact .inr (.inr (.inr (.inl h.1)))
  · exact .inr (.inr (.inr (.inr h.1)))
theorem less_lo {xi kc : Addr} {lo hi m : Nat} {u : V} : ∀ y v, (rhoB c0 c1 n xi kc m hi).lookup y = some v → ((nLo, V.int (m : Int)) :: (nMid, u) :: rhoB c0 c1 n xi kc lo hi).lookup y = some v := fun y v e => by
  rcases rhoB_names e with rfl | rfl | rfl | rfl | rfl <;> (cases e; rfl)
theorem less_hi {xi kc : Addr} {lo hi m : Nat} {u : V} : ∀ y v, (rhoB c0 c1 n xi kc lo m).lookup y = some v → ((nHi, V.int (m : Int)) :: (nMid, u) :: rhoB c0 c1 n xi kc lo hi).lookup y = some v := fun y v e => by
  rcases rhoB_names e with rfl | rfl | rfl | rfl | rfl <;> (cases e; rfl)
/-- one turn of the loop -/
theorem turn_wp {d : Nat} (hd : d < 540) {env : Env} {A : Around} {s₀ s1 : Shared} {Q : Flow → Shared → Prop} {E : Value → Shared → Prop} (G : Gnd w X s nt f rel xi so row lk a τ g c0 c1 n q0 q1 q2) (first : Bool) (hA : Lv d A) (hE : EnvIs K env) (hC : CellsIn K env)
    (hk1 : (K.lookup nMid == some .local || K.lookup nMid == some .cell) = true) (hk2 : (K.lookup nLo == some .local || K.lookup nLo == some .cell) = true) (hk3 : (K.lookup nHi == some .local || K.lookup nHi == some .cell) = true)
    {lo hi : Nat} (hlt : lo < hi) (hhi : hi ≤ n) (hn80 : n ≤ 1000) (F : Frm w (X.but s nt) env s₀ s1 (rhoB c0 c1 n xi (a 60) lo hi)) (h0 : s₀.heap.get? nt = none) {vs : Array Value} {nn : Nat} (hnt : s1.heap.get? nt = some (lst vs nn)) (hsz : vs.size ≤ 1000)
    {p1 p2 p3 p4 p5 p6 p7 p8 p9 p10 p11 p12 p13 p14 p15 p16 p17 p18 p19 p20 p21 p22 p23 : Pos} {kk kl : Nat} {l r : Expr} {L R : List Stmt}
    (hl : l = (if first then .Call (.Name nKey p1) [.Subscript (.Name nA p2) (.Name nMid p3) p4] [] p5 else .Name nX p6)) (hr : r = (if first then .Name nX p6 else .Call (.Name nKey p1) [.Subscript (.Name nA p2) (.Name nMid p3) p4] [] p5))
    (hm : behindInMarks .Lt r = false) (hL : L = (if first then [.Assign [.Name nLo p8] (.BinOp (.Name nMid p9) .Add (.Constant (.int 1) kl p10) p11) p12] else [.Assign [.Name nHi p13] (.Name nMid p14) p15]))
    (hR : R = (if first then [.Assign [.Name nHi p13] (.Name nMid p14) p15] else [.Assign [.Name nLo p8] (.BinOp (.Name nMid p9) .Add (.Constant (.int 1) kl p10) p11) p12]))
    (k : ∀ s' u m, Frm w (X.but s nt) env s₀ s' (if (if first then decide (likeOf lk (g (c0 ((lo + hi) / 2)) (c1 ((lo + hi) / 2)) q0 q1) < 0) else !decide (likeOf lk (g q0 q1 (c0 ((lo + hi) / 2)) (c1 ((lo + hi) / 2))) < 0)) then rhoB c0 c1 n xi (a 60) ((lo + hi) / 2 + 1) hi else rhoB c0 c1 n xi (a 60) lo ((lo + hi) / 2)) →
      Lists (X.but s nt) s1.heap s'.heap → s'.heap.get? nt = some (lst (vs.push u) m) → PairAt X.l s'.heap u (if first then (((lo + hi) / 2 : Nat) : Int) else q2) (if first then q2 else (((lo + hi) / 2 : Nat) : Int)) → Q .next s') :
    wpAny (model prg w) A (execs [.Assign [.Name nMid p16] (.BinOp (.BinOp (.Name nLo p17) .Add (.Name nHi p18) p19) .FloorDiv (.Constant (.int 2) kk p20) p21) p22, .If (.Compare l [.Lt] [r] p7) L R p23] env) Q E s1 := by
  have lo' := hA.ok (by omega)
  have hn9 := (G.I.x _ G.hX).1
  refine wpAny_execs_cons (thru_assign (φ := Lv d) (ev_eq (ev_bin (ev_bin (ev_name rfl rfl) (ev_name rfl rfl) op_add) ev_int (op_div (by decide) (by decide))) (congrArg V.int (mid_eq lo hi))) hk1 (fun _ _ => rfl) env A s₀ s1 _ E hA lo' hE hC F fun s2 F2 S2 => ?_)
  have nt2 : s2.heap.get? nt = some (lst vs nn) := S2.keep _ _ hn9 (by show (2 : Nat) ≠ 3; decide) (by show (2 : Nat) ≠ 6; decide) hnt
  refine wpAny_execs_cons (wpAny_If (test_wp hd G first hA hE F2.I F2.H (mid := (lo + hi) / 2) (by omega) hn80 rfl rfl rfl rfl nt2 hsz hl hr hm fun s3 u m I3 k23 sm23 nt3 pr3 => ?_))
  have F3 := F2.note G.hX h0 nt2 I3 k23 sm23
  have l13 : Lists (X.but s nt) s1.heap s3.heap := fun b vs n h9 hx e => lists_note (X := X.but s nt) G.hX k23 b vs n h9 hx (soft_lists (X := X.but s nt) S2 b vs n h9 hx e)
  have done : ∀ s4, Soft s3 s4 → Frm w (X.but s nt) env s₀ s4 (if (if first then decide (likeOf lk (g (c0 ((lo + hi) / 2)) (c1 ((lo + hi) / 2)) q0 q1) < 0) else !decide (likeOf lk (g q0 q1 (c0 ((lo + hi) / 2)) (c1 ((lo + hi) / 2))) < 0)) then rhoB c0 c1 n xi (a 60) ((lo + hi) / 2 + 1) hi else rhoB c0 c1 n xi (a 60) lo ((lo + hi) / 2)) → Q .next s4 := fun s4 S4 F4 =>
    k s4 u m F4 (fun b vs n h9 hx e => soft_lists (X := X.but s nt) S4 b vs n h9 hx (l13 b vs n h9 hx e)) (S4.keep _ _ hn9 (by show (2 : Nat) ≠ 3; decide) (by show (2 : Nat) ≠ 6; decide) nt3)
      (pr3.up fun e o h9 _ g t => S4.keep _ _ h9 (by rw [t]; decide) (by rw [t]; decide) g)
  have up : ∀ {s3 : Shared} {Q : Flow → Shared → Prop}, Frm w (X.but s nt) env s₀ s3 ((nMid, .int (((lo + hi) / 2 : Nat) : Int)) :: rhoB c0 c1 n xi (a 60) lo hi) → (∀ s4, Soft s3 s4 → Frm w (X.but s nt) env s₀ s4 (rhoB c0 c1 n xi (a 60) ((lo + hi) / 2 + 1) hi) → Q .next s4) →
      wpAny (model prg w) A (execs [.Assign [.Name nLo p8] (.BinOp (.Name nMid p9) .Add (.Constant (.int 1) kl p10) p11) p12] env) Q E s3 := fun F3 kq =>
    wpAny_execs_cons (thru_assign (φ := Lv d) (v := .int (((lo + hi) / 2 + 1 : Nat) : Int)) (ev_bin (ev_name rfl rfl) ev_int op_add) hk2 (fun _ _ => rfl) env A s₀ _ _ E hA lo' hE hC F3 fun s4 F4 S4 => wpAny_execs_nil (kq s4 S4 (F4.less less_lo)))
  have down : ∀ {s3 : Shared} {Q : Flow → Shared → Prop}, Frm w (X.but s nt) env s₀ s3 ((nMid, .int (((lo + hi) / 2 : Nat) : Int)) :: rhoB c0 c1 n xi (a 60) lo hi) → (∀ s4, Soft s3 s4 → Frm w (X.but s nt) env s₀ s4 (rhoB c0 c1 n xi (a 60) lo ((lo + hi) / 2)) → Q .next s4) →
      wpAny (model prg w) A (execs [.Assign [.Name nHi p13] (.Name nMid p14) p15] env) Q E s3 := fun F3 kq =>
    wpAny_execs_cons (thru_assign (φ := Lv d) (v := .int (((lo + hi) / 2 : Nat) : Int)) (ev_name rfl rfl) hk3 (fun _ _ => rfl) env A s₀ _ _ E hA lo' hE hC F3 fun s4 F4 S4 => wpAny_execs_nil (kq s4 S4 (F4.less less_hi)))
  clear k pr3 hl hr hm
  subst hL hR
  cases first with
  | true =>
    simp only [if_true] at done ⊢
    cases hb : decide (likeOf lk (g (c0 ((lo + hi) / 2)) (c1 ((lo + hi) / 2)) q0 q1) < 0) with
    | true => rw [hb] at done; exact up F3 fun s4 S4 F4 => wpAny_execs_nil (done s4 S4 F4)
    | false => rw [hb] at done; exact down F3 fun s4 S4 F4 => wpAny_execs_nil (done s4 S4 F4)
  | false =>
    simp only [Bool.false_eq_true, if_false] at done ⊢
    cases hb : decide (likeOf lk (g q0 q1 (c0 ((lo + hi) / 2)) (c1 ((lo + hi) / 2))) < 0) with
    | true => rw [hb] at done; exact down F3 fun s4 S4 F4 => wpAny_execs_nil (done s4 S4 F4)
    | false => rw [hb] at done; exact up F3 fun s4 S4 F4 => wpAny_execs_nil (done s4 S4 F4)
end Vl
end
section
open PySem PySem.W PySem.W.X PyProof.Rows
set_option Elab.async false
set_option maxRecDepth 100000
set_option maxHeartbeats 4000000
set_option linter.unusedVariables false
namespace Vl
open Mine
variable {w : World} {X : Av} {φ : Around → Prop} {K : List (Str × NameKind)} {ρ : List (Str × V)}
variable {s : Shared} {nt f rel xi so row : Addr} {lk : Int} {a : Nat → Addr} {τ : Nat → Nat} {g : Int → Int → Int → Int → Int} {c0 c1 : Nat → Int} {n : Nat} {q0 q1 q2 : Int}
/-- the test at an item, as the search goes on behind it -/
def goB (first : Bool) (lk : Int) (g : Int → Int → Int → Int → Int) (c0 c1 : Nat → Int) (q0 q1 : Int) (k : Nat) : Bool := if first then decide (likeOf lk (g (c0 k) (c1 k) q0 q1) < 0) else !decide (likeOf lk (g q0 q1 (c0 k) (c1 k)) < 0)
def noteB (first : Bool) (q2 : Int) (k : Nat) : Int × Int := if first then ((k : Int), q2) else (q2, (k : Int))
theorem NotesAt.lists {h h' : Heap} (k : Lists X h h') : ∀ {vs : List Value} {L : List (Int × Int)}, NotesAt X.l h vs L → NotesAt X.l h' vs L
  | [], [], _ => True.intro
  | _ :: _, _ :: _, ⟨⟨e, t1, t2, m, ev, e9, ex, g⟩, r⟩ => ⟨⟨e, t1, t2, m, ev, e9, ex, k e _ m e9 ex g⟩, NotesAt.lists k r⟩
/-- a body that is a turn -/
def TurnB (w : World) (X : Av) (s : Shared) (nt xi : Addr) (a : Nat → Addr) (c0 c1 : Nat → Int) (n : Nat) (first : Bool) (q2 : Int) (go : Nat → Bool) (env : Env) (A : Around) (s₀ : Shared) (body : List Stmt) : Prop :=
  ∀ {lo hi : Nat} {s1 : Shared} {vs : Array Value} {nn : Nat} {Q : Flow → Shared → Prop} {E : Value → Shared → Prop}, lo < hi → hi ≤ n → Frm w (X.but s nt) env s₀ s1 (rhoB c0 c1 n xi (a 60) lo hi) → s1.heap.get? nt = some (lst vs nn) → vs.size ≤ 1000 →
    (∀ s' u m, Frm w (X.but s nt) env s₀ s' (if go ((lo + hi) / 2) then rhoB c0 c1 n xi (a 60) ((lo + hi) / 2 + 1) hi else rhoB c0 c1 n xi (a 60) lo ((lo + hi) / 2)) → Lists (X.but s nt) s1.heap s'.heap → s'.heap.get? nt = some (lst (vs.push u) m) →
      PairAt X.l s'.heap u (noteB first q2 ((lo + hi) / 2)).1 (noteB first q2 ((lo + hi) / 2)).2 → Q .next s') → wpAny (model prg w) A (execs body env) Q E s1
theorem bis_size (go : Nat → Bool) : ∀ (m lo hi : Nat), (bis go m lo hi).2.length ≤ m
  | 0, _, _ => Nat.le_refl _
  | m + 1, lo, hi => by
    unfold bis
    split
    · simp only [List.length_cons]
      have h1 := bis_size go m ((lo + hi) / 2 + 1) hi
      have h2 := bis_size go m lo ((lo + hi) / 2)
      split <;> omega
    · exact Nat.zero_le _
theorem bis_end (go : Nat → Bool) {lo hi : Nat} (h : ¬ lo < hi) : ∀ m, bis go m lo hi = (lo, [])
  | 0 => rfl
  | m + 1 => by unfold bis; rw [if_neg h]
theorem bis_turn (go : Nat → Bool) {lo hi m : Nat} (h : lo < hi) : bis go (m + 1) lo hi = ((if go ((lo + hi) / 2) then bis go m ((lo + hi) / 2 + 1) hi else bis go m lo ((lo + hi) / 2)).1, (lo + hi) / 2 :: (if go ((lo + hi) / 2) then bis go m ((lo + hi) / 2 + 1) hi else bis go m lo ((lo + hi) / 2)).2) := by
  show (if lo < hi then _ else _) = _
  rw [if_pos h]
/-- the loop -/
theorem loop_wp {d : Nat} (hd : d < 540) {env : Env} {A : Around} {s₀ s1 : Shared} {Q : Flow → Shared → Prop} {E : Value → Shared → Prop} {first : Bool} {go : Nat → Bool} (hA : Lv d A) (hE : EnvIs K env) (n9 : 95 ≤ nt) {body : List Stmt} (hB : TurnB w X s nt xi a c0 c1 n first q2 go env A s₀ body)
    {lo hi : Nat} (hhi : hi ≤ n) (hn80 : n ≤ 800) (F : Frm w (X.but s nt) env s₀ s1 (rhoB c0 c1 n xi (a 60) lo hi)) {nn : Nat} (hnt : s1.heap.get? nt = some (lst #[] nn)) {p1 p2 p3 p4 : Pos}
    (k : ∀ s' vs m hi', Frm w (X.but s nt) env s₀ s' (rhoB c0 c1 n xi (a 60) (bis go (hi - lo) lo hi).1 hi') → s'.heap.get? nt = some (lst vs m) → NotesAt X.l s'.heap vs.toList ((bis go (hi - lo) lo hi).2.map (noteB first q2)) → Q .next s') :
    wpAny (model prg w) A (exec (.While (.Compare (.Name nLo p1) [.Lt] [.Name nHi p2] p3) body [] p4) env) Q E s1 := by
  have lo' := hA.ok (by omega)
  refine wpAny_While (codeAny_whileLoop (fun c s' => ∃ lo1 hi1 vs m l, hi1 - lo1 ≤ c ∧ hi1 ≤ n ∧ Frm w (X.but s nt) env s₀ s' (rhoB c0 c1 n xi (a 60) lo1 hi1) ∧ s'.heap.get? nt = some (lst vs m) ∧ NotesAt X.l s'.heap vs.toList l ∧ vs.size + c ≤ 900 ∧
      (bis go (hi - lo) lo hi).1 = (bis go c lo1 hi1).1 ∧ (bis go (hi - lo) lo hi).2.map (noteB first q2) = l ++ (bis go c lo1 hi1).2.map (noteB first q2)) ?_ (hi - lo) ⟨lo, hi, #[], nn, [], Nat.le_refl _, hhi, F, hnt, True.intro, by simp; omega, rfl, rfl⟩)
  rintro c s2 ⟨lo1, hi1, vs, m, l, h1, h2, F2, nt2, N2, h3, e1, e2⟩
  refine tr_cmp (φ := Lv d) (ev_name rfl rfl) (ev_name rfl rfl) cmp_lt rfl env A s2 _ _ hA lo' hE F2.I F2.H fun s3 I3 X3 => ?_
  have F3 := F2.up I3 X3
  have nt3 : s3.heap.get? nt = some (lst vs m) := X3.keep _ _ n9 (by show (2 : Nat) ≠ 3; decide) nt2
  have N3 : NotesAt X.l s3.heap vs.toList l := N2.up fun e o h9 _ g t => X3.keep e o h9 (by rw [t]; decide) g
  by_cases hlt : lo1 < hi1
  · rw [decide_eq_true (by omega : (lo1 : Int) < (hi1 : Int))]
    simp only [if_true]
    obtain ⟨c', rfl⟩ : ∃ c', c = c' + 1 := ⟨c - 1, by omega⟩
    rw [bis_turn go hlt] at e1 e2
    refine hB hlt h2 F3 nt3 (by omega) fun s4 u m4 F4 l34 nt4 pr4 => ?_
    refine ⟨c', Nat.lt_succ_self _, ?_⟩
    have N4 : NotesAt X.l s4.heap (vs.push u).toList (l ++ [noteB first q2 ((lo1 + hi1) / 2)]) := by
      rw [Array.toList_push]
      exact NotesAt.snoc pr4 (NotesAt.lists (X := X.but s nt) l34 N3)
    cases hg : go ((lo1 + hi1) / 2) with
    | true =>
      rw [hg] at F4 e1 e2
      exact ⟨(lo1 + hi1) / 2 + 1, hi1, _, m4, _, by omega, h2, F4, nt4, N4, by rw [Array.size_push]; omega, e1, by simpa using e2⟩
    | false =>
      rw [hg] at F4 e1 e2
      exact ⟨lo1, (lo1 + hi1) / 2, _, m4, _, by omega, by omega, F4, nt4, N4, by rw [Array.size_push]; omega, e1, by simpa using e2⟩
  · rw [decide_eq_false (by omega : ¬ (lo1 : Int) < (hi1 : Int))]
    simp only [Bool.false_eq_true, if_false]
    rw [bis_end go hlt] at e1 e2
    refine wpAny_execs_nil ?_
    rw [show lo1 = (bis go (hi - lo) lo hi).1 from e1.symm] at F3
    exact k s3 vs m hi1 F3 nt3 (by rw [e2]; simpa using N3)
def nLen : Str := ⟨#[108, 101, 110]⟩
/-- a bisect -/
theorem bis_wp {d : Nat} (hd : d < 530) {A : Around} {R : Result → Shared → Prop} {first : Bool} {go : Nat → Bool} (hA : Lv d A) (G : Gnd w X s nt f rel xi so row lk a τ g c0 c1 n q0 q1 q2) (hn80 : n ≤ 800) {nn : Nat} (hnt : s.heap.get? nt = some (lst #[] nn))
    {fb : Addr} {o : Obj} {fd : FuncData} {hv : Value} {lo hi : Nat} {tl : Tok} {p1 p2 p3 p4 p5 p6 p7 p8 p9 p10 p11 p12 p13 p14 p15 p16 p17 p18 p19 p20 p21 p22 p23 : Pos} {k1 k2 k3 : Nat} {B1 B2 body : List Stmt}
    (ho : (kt w.params).get fb = some o) (hdt : o.data = .func fd) (hcode : ∃ c o vs t, fd.code = .ref c ∧ (kt w.params).get c = some o ∧ o.data = .fields vs ∧ vs[1]? = some (.str fd.qualname t))
    (hbody : fd.body = .stmts [.If (.Compare (.Name nLo p1) [.Lt] [.Constant (.int 0) k1 p2] p3) B1 [] p4, .If (.Compare (.Name nHi p5) [.Is] [.Constant .none k2 p6] p7) [.Assign [.Name nHi p8] (.Call (.Name nLen p9) [.Name nA p10] [] p11) p12] [] p13,
      .If (.Compare (.Name nKey p14) [.Is] [.Constant .none k3 p15] p16) B2 [.While (.Compare (.Name nLo p17) [.Lt] [.Name nHi p18] p19) body [] p20] p21, .Return (some (.Name nLo p22)) p23])
    (hbind : BindsTo s fd ⟨[.ref row, .ref xi, .int lo tl, hv], [(nKey, .ref (a 60))]⟩ [(nA, .ref row), (nX, .ref xi), (nLo, .int lo tl), (nHi, hv), (nKey, .ref (a 60))]) (hcell : ∀ x ∈ fd.scope.names, x.2 ≠ .cell)
    (hloc : ∀ x ∈ ([nA, nX, nLo, nHi, nKey] : List Str), fd.scope.names.lookup x = some .local) (hlen : fd.scope.names.lookup nLen = some .globalImplicit) (hg : fd.globals = mainGlobals) (hbl : fd.builtins = builtinsNs) (hco : fd.scope.isCoroutine = false) (hgen : fd.scope.isGenerator = false) (hkind : fd.scope.kind = .function) (hclo : fd.closure = [])
    (hhv : (∃ th, hv = .int hi th) ∨ (hv = .none ∧ hi = n)) (hhi : hi ≤ n)
    (hB : ∀ (env : Env) (A' : Around) (s₀ : Shared), Lv (d + 1) A' → EnvIs fd.scope.names env → CellsIn fd.scope.names env → s₀.heap.get? nt = none → TurnB w X s nt xi a c0 c1 n first q2 go env A' s₀ body)
    (k : ∀ t s' vs m, (∀ b o, b ≠ nt → s.heap.get? b = some o → s'.heap.get? b = some o) → Same s s' → s'.heap.get? nt = some (lst vs m) → NotesAt X.l s'.heap vs.toList ((bis go (hi - lo) lo hi).2.map (noteB first q2)) → R (.ok (.ret (.int ((bis go (hi - lo) lo hi).1 : Nat) t))) s') :
    codeAny (model prg w) A (.call (.ref fb) ⟨[.ref row, .ref xi, .int lo tl, hv], [(nKey, .ref (a 60))]⟩) R s := by
  obtain ⟨c, oc, cvs, tq, e1, e2, e3, e4⟩ := hcode
  have IZ := G.I.but nt
  obtain ⟨n9, _⟩ := G.I.x _ G.hX
  refine enter_clo (Nat.le_trans hA.2.1 (by omega)) IZ (G.I.kt _ _ ho) hdt ⟨c, oc, cvs, tq, e1, G.I.kt _ _ e2, e3, e4⟩ hbody hbind hcell (fun x hx => ?_) hg hbl hco hgen hkind fun E env s₁ hE hcl hL I1 kp sm ns => ?_
  · simp only [List.mem_cons, List.not_mem_nil, or_false] at hx
    rcases hx with rfl | rfl | rfl | rfl | rfl <;> exact hloc _ (by simp)
  have lv : Lv (d + 1) (A.deeper env) := (Lv.deeper (by omega) A env hA (hA.ok (by omega))).1
  have lo' : AOk (A.deeper env) := lv.ok (by omega)
  have L9 : 95 ≤ env.locals := by rw [hL]; exact G.I.high
  have X1 : Ext s s₁ := Ext.of kp sm
  have hC : CellsIn fd.scope.names env := fun x hx => absurd rfl (hcell _ (PySem.mem_of_lookup hx))
  have bd : ∀ {x : Str} {u : Value}, x ∈ ([nA, nX, nLo, nHi, nKey] : List Str) → ([(nA, .ref row), (nX, .ref xi), (nLo, .int lo tl), (nHi, hv), (nKey, .ref (a 60))] : List (Str × Value)).reverse.lookup x = some u → Bound env s₁.heap x u := fun hx hu => .inl ⟨(hE.k _).trans (hloc _ hx), L9, _, ns, hu⟩
  obtain ⟨vh, rvh, hvh⟩ : ∃ vh, Rep (X.but s nt) s₁.heap vh hv ∧ (vh = V.int (hi : Int) ∨ (vh = V.none ∧ hi = n)) := by
    rcases hhv with ⟨th, rfl⟩ | ⟨rfl, e⟩
    · exact ⟨.int hi, ⟨th, rfl⟩, .inl rfl⟩
    · exact ⟨.none, rfl, .inr ⟨rfl, e⟩⟩
  have h0 : ({ s with heap := hideAll s.heap [nt] } : Shared).heap.get? nt = none := hideAll_none _ (List.mem_singleton.mpr rfl)
  have sm0 : Same s { s with heap := hideAll s.heap [nt] } := ⟨rfl, rfl⟩
  have F1 : Frm w (X.but s nt) env { s with heap := hideAll s.heap [nt] } s₁ [(nA, .list (rowV c0 c1 n)), (nX, .val (.ref xi)), (nLo, .int lo), (nHi, vh), (nKey, .val (.ref (a 60)))] := by
    refine ⟨I1, ((((Has.nil.cons (v := .val (.ref (a 60))) rfl (bd (by simp) rfl)).cons rvh (bd (by simp) rfl)).cons (v := .int (lo : Int)) ⟨tl, rfl⟩ (bd (by simp) rfl)).cons (v := .val (.ref xi)) rfl (bd (by simp) rfl)).cons (Rep.up X1.lists _ _ (G.rr.but G.I G.nb)) (bd (by simp) rfl), Ext.of (fun b o e => kp b o (of_hideAll _ e)) ⟨sm.1, sm.2⟩, ?_, ⟨fun b hb => ⟨?_, fun y c ec => ?_⟩, fun b hb => ?_⟩, ?_, ⟨_, ns⟩, fun y c ec => ?_, fun y z c ec _ => ?_⟩
    · show 95 ≤ (hideAll s.heap [nt]).objs.size
      rw [hideAll_size]; exact G.I.high
    · rw [hL]; exact Nat.ne_of_lt (G.I.lt hb)
    · rw [hcl, hclo] at ec; cases ec
    · show (if b = nt then none else s.heap.get? b) = none
      by_cases q : b = nt
      · exact if_pos q
      · rw [if_neg q]
        cases z : s.heap.get? b with
        | none => rfl
        | some o => rw [hideAll_get _ z (fun m => q (List.mem_singleton.mp m))] at hb; cases hb
    · show (hideAll s.heap [nt]).objs.size ≤ env.locals
      rw [hideAll_size, hL]; exact Nat.le_refl _
    · rw [hcl, hclo] at ec; cases ec
    · rw [hcl, hclo] at ec; cases ec
  have nt1 := kp _ _ hnt
  have t3 : tagOf (lst #[] nn) ≠ 3 := by show (2 : Nat) ≠ 3; decide
  have t6 : tagOf (lst #[] nn) ≠ 6 := by show (2 : Nat) ≠ 6; decide
  generalize ({ s with heap := hideAll s.heap [nt] } : Shared) = s₀ at h0 F1 sm0
  -- lo is no negative
  refine wpAny_execs_cons (thru_skip (φ := Lv (d + 1)) (tr_cmp (ev_name rfl rfl) ev_int cmp_lt rfl) (decide_eq_false (by omega)) thru_nil env _ s₀ s₁ _ E lv lo' hE hC F1 fun s2 F2 S2 => ?_)
  have nt2 := S2.keep _ _ n9 t3 t6 nt1
  -- no hi: the length
  have stage : ∀ (Q : Flow → Shared → Prop), (∀ s3, Frm w (X.but s nt) env s₀ s3 (rhoB c0 c1 n xi (a 60) lo hi) → s3.heap.get? nt = some (lst #[] nn) → Q .next s3) →
      wpAny (model prg w) (A.deeper env) (exec (.If (.Compare (.Name nHi p5) [.Is] [.Constant .none k2 p6] p7) [.Assign [.Name nHi p8] (.Call (.Name nLen p9) [.Name nA p10] [] p11) p12] [] p13) env) Q E s2 := fun Q kq => by
    rcases hvh with rfl | ⟨rfl, hin⟩
    · exact thru_skip (φ := Lv (d + 1)) (tr_cmp (ev_name rfl rfl) ev_none (cmp_isNone rfl) rfl) rfl thru_nil env _ s₀ s2 _ E lv lo' hE hC F2 fun s3 F3 S3 => kq s3 F3 (S3.keep _ _ n9 t3 t6 nt2)
    · refine thru_take (φ := Lv (d + 1)) (tr_cmp (ev_name rfl rfl) ev_none (cmp_isNone rfl) rfl) rfl (thru_cons (thru_assign (v := .int (hi : Int)) (ev_eq (ev_callB hlen rfl (gl_len w) (fun _ => rfl) (fun _ _ => rfl) (evl_cons (ev_name rfl rfl) evl_nil (fun _ => rfl)) (does_len (by simp [rowV]; omega))) (by simp [rowV, hin])) (by rw [hloc nHi (by simp)]; rfl) (fun _ _ => rfl)) thru_nil) env _ s₀ s2 _ E lv lo' hE hC F2 fun s3 F3 S3 => kq s3 (F3.less fun y v e => ?_) (S3.keep _ _ n9 t3 t6 nt2)
      rcases rhoB_names e with rfl | rfl | rfl | rfl | rfl <;> (cases e; rfl)
  refine wpAny_execs_cons (stage _ fun s3 F3 nt3 => ?_)
  -- the search
  refine wpAny_execs_cons (wpAny_If (tr_cmp (φ := Lv (d + 1)) (c := false) (ev_name rfl rfl) ev_none (cmp_isNone rfl) rfl env _ s3 _ E lv lo' hE F3.I F3.H fun s4 I4 X4 => ?_))
  have F4 := F3.up I4 X4
  refine wpAny_execs_cons (loop_wp (d := d + 1) (by omega) lv hE n9 (hB env _ s₀ lv hE hC h0) hhi hn80 F4 (X4.keep _ _ n9 t3 nt3) fun s5 vs m hi' F5 nt5 N5 => wpAny_execs_nil ?_)
  refine exec_ret (φ := Lv (d + 1)) lv lo' hE F5.I.all (F5.H.all F5.I) (fun t s6 I6 X6 => ?_) (ev_name rfl rfl)
  have k56 : ∀ b o, s5.heap.get? b = some o → s6.heap.get? b = some o := I6.bs
  exact k t s6 vs m (fun b o hb e => k56 _ _ (but_keeps F5.I b o hb e)) (sm0.trans (F5.ext.same.trans X6.same)) (k56 _ _ nt5) (N5.up fun _ _ _ _ g _ => k56 _ _ g)
end Vl
end
section
open PySem PySem.W PySem.W.X PyProof.Rows
set_option Elab.async false
set_option maxRecDepth 100000
set_option maxHeartbeats 4000000
set_option linter.unusedVariables false
namespace Vl
open Mine
variable {w : World} {X : Av} {φ : Around → Prop} {K : List (Str × NameKind)} {ρ : List (Str × V)}
variable {s : Shared} {nt f rel xi so row : Addr} {lk : Int} {a : Nat → Addr} {τ : Nat → Nat} {g : Int → Int → Int → Int → Int} {c0 c1 : Nat → Int} {n : Nat} {q0 q1 q2 : Int}
/-- what a bisect does -/
def BisPos (w : World) (first : Bool) (fb : Addr) : Prop := ∀ {X : Av} {s : Shared} {nt f rel xi so row : Addr} {lk : Int} {a : Nat → Addr} {τ : Nat → Nat} {g : Int → Int → Int → Int → Int} {c0 c1 : Nat → Int} {n : Nat} {q0 q1 q2 : Int} {d : Nat} (_ : d < 530) {A : Around} {R : Result → Shared → Prop} (_ : Lv d A) (_ : Gnd w X s nt f rel xi so row lk a τ g c0 c1 n q0 q1 q2) (_ : n ≤ 800) {nn : Nat} (_ : s.heap.get? nt = some (lst #[] nn))
    {hv : Value} {lo hi : Nat} {tl : Tok} (_ : (∃ th, hv = .int hi th) ∨ (hv = .none ∧ hi = n)) (_ : hi ≤ n)
    (_ : ∀ t s' vs m, (∀ b o, b ≠ nt → s.heap.get? b = some o → s'.heap.get? b = some o) → Same s s' → s'.heap.get? nt = some (lst vs m) → NotesAt X.l s'.heap vs.toList ((bis (goB first lk g c0 c1 q0 q1) (hi - lo) lo hi).2.map (noteB first q2)) → R (.ok (.ret (.int ((bis (goB first lk g c0 c1 q0 q1) (hi - lo) lo hi).1 : Nat) t))) s'),
    codeAny (model prg w) A (.call (.ref fb) ⟨[.ref row, .ref xi, .int lo tl, hv], [(nKey, .ref (a 60))]⟩) R s
theorem bisL_wp : BisPos w true 32 := by
  intro X s nt f rel xi so row lk a τ g c0 c1 n q0 q1 q2 d hd A R hA G hn80 nn hnt hv lo hi tl hhv hhi k
  exact bis_wp (first := true) (go := goB true lk g c0 c1 q0 q1) hd hA G hn80 hnt rfl rfl ⟨_, _, _, _, rfl, rfl, rfl, rfl⟩ rfl (bind32 G.I.kt (.ref row) (.ref xi) _ hv (.ref (a 60))) (show ∀ x ∈ fd32.scope.names, x.2 ≠ .cell by unfold fd32; decide) (by intro y hy; simp only [List.mem_cons, List.not_mem_nil, or_false] at hy; rcases hy with rfl | rfl | rfl | rfl | rfl <;> rfl) rfl rfl rfl rfl rfl rfl rfl hhv hhi
    (fun env A' s₀ lv hE hC h0 => fun hlt hhi F hnt hsz k => turn_wp (by omega) G true lv hE hC rfl rfl rfl hlt hhi (by omega) F h0 hnt hsz rfl rfl rfl rfl rfl k) k
theorem bisR_wp : BisPos w false 23 := by
  intro X s nt f rel xi so row lk a τ g c0 c1 n q0 q1 q2 d hd A R hA G hn80 nn hnt hv lo hi tl hhv hhi k
  exact bis_wp (first := false) (go := goB false lk g c0 c1 q0 q1) hd hA G hn80 hnt rfl rfl ⟨_, _, _, _, rfl, rfl, rfl, rfl⟩ rfl (bind23 G.I.kt (.ref row) (.ref xi) _ hv (.ref (a 60))) (show ∀ x ∈ fd23.scope.names, x.2 ≠ .cell by unfold fd23; decide) (by intro y hy; simp only [List.mem_cons, List.not_mem_nil, or_false] at hy; rcases hy with rfl | rfl | rfl | rfl | rfl <;> rfl) rfl rfl rfl rfl rfl rfl rfl hhv hhi
    (fun env A' s₀ lv hE hC h0 => fun hlt hhi F hnt hsz k => turn_wp (by omega) G false lv hE hC rfl rfl rfl hlt hhi (by omega) F h0 hnt hsz rfl rfl rfl rfl rfl k) k
end Vl
end
section
open PySem PySem.W PySem.W.X PyProof.Rows
set_option Elab.async false
set_option maxRecDepth 100000
set_option maxHeartbeats 4000000
set_option linter.unusedVariables false
namespace Vl
open Mine Lean Meta Elab Tactic
variable {w : World} {X : Av} {φ : Around → Prop} {K : List (Str × NameKind)} {ρ : List (Str × V)}
def Av.push (env : Env) (X : Av) : Av := ⟨X.l, X.B, env :: X.fr⟩
/-- a def of the text's is entered, its frame noted -/
theorem enter_push {f : Addr} {fd : FuncData} {body : List Stmt} {ps : List Str} {vs : List V} {A : Around} {s : Shared} {us : List Value} {R : Result → Shared → Prop} (hf : FnOk w f fd body ps) (hl : vs.length = ps.length) (hA : A.depth ≤ 600) (I : Inv w X s) (r : RepL X s.heap vs us)
    (h : ∀ (E : Value → Shared → Prop) (env : Env) (s₁ : Shared), env = callEnvC fd s.heap.objs.size f → EnvIs fd.scope.names env → CellsIn fd.scope.names env → Frm w (X.push env) env s s₁ (ps.zip vs) →
      wpAny (model prg w) (A.deeper env) (execs body env) (fun fl s' => R (.ok (.ret (match fl with | .ret v => v | _ => .none))) s') E s₁) :
    codeAny (model prg w) A (.call (.ref f) ⟨us, []⟩) R s := by
  obtain ⟨o, ho, hd⟩ := hf.obj
  obtain ⟨c, oc, cs, t, e1, e2, e3, e4⟩ := hf.code
  have hlen : us.length = ps.length := by rw [r.len, hl]
  have hkeys := zip_keys (ps := ps) hlen
  have hkind : ∀ x ∈ ps, fd.scope.names.lookup x = some .local ∨ fd.scope.names.lookup x = some .cell := fun x hx => by
    have := List.all_eq_true.mp hf.kinds x hx
    simpa using this
  refine codeAny_call_cells (by show A.depth < 1000; omega) (I.kt _ _ ho) hd (no_lim I) ⟨c, oc, cs, t, e1, I.kt _ _ e2, e3, e4⟩ hf.body (hf.bind us hlen) hf.clo (fun x hx => ?_) (fun s₁ x => ?_) hf.co hf.gen hf.kind
  · have hx' : x.1 ∈ ps := by rw [← hkeys]; exact List.mem_map.mpr ⟨x, hx, rfl⟩
    rcases hkind _ hx' with h | h
    · exact .inl h
    · obtain ⟨d, hd⟩ := cells_lookup (s.heap.objs.size + 1) h
      exact .inr ⟨h, by rw [hd]; rfl⟩
  · have hE : EnvIs fd.scope.names (callEnvC fd s.heap.objs.size f) := ⟨rfl, hf.kind, hf.glob, hf.blt⟩
    have hC : CellsIn fd.scope.names (callEnvC fd s.heap.objs.size f) := fun y hy => cells_lookup _ hy
    have kp := x.toInCall.keep
    have sm : Same s s₁ := by obtain ⟨h, tk, e⟩ := x.toInCall.same; rw [e]; exact ⟨rfl, rfl⟩
    have X1 : Ext s s₁ := Ext.of kp sm
    have I1 : Inv w X s₁ := I.of kp
    have nn : s.heap.get? s.heap.objs.size = none := get_none (Nat.le_refl _)
    have I2 : Inv w (X.push (callEnvC fd s.heap.objs.size f)) s₁ := ⟨I1.kt, I1.n, I1.k, I1.r, I1.x, I1.bs, fun en he => by
      rcases List.mem_cons.mp he with rfl | he
      · obtain ⟨oL, eL, tL⟩ := ns_tag x.toInCall.ns
        exact ⟨by rw [hE.kind]; decide, s.heap.objs.size, oL, rfl, I.high, I.nb nn, eL, tL⟩
      · exact I1.f en he⟩
    have Fm : Frm w (X.push (callEnvC fd s.heap.objs.size f)) (callEnvC fd s.heap.objs.size f) s s₁ (ps.zip vs) := by
      refine ⟨I2, fun y z hy => ?_, X1, I.high, ⟨fun a ha => ⟨Nat.ne_of_lt (I.lt ha), fun y c ec => Nat.ne_of_lt (Nat.lt_trans (I.lt ha) (x.above y c (PySem.mem_of_lookup ec)))⟩, fun _ h => I.nb h⟩, Nat.le_refl _, ⟨_, x.toInCall.ns⟩, fun y c ec => ?_, fun y z c h1 h2 => name_of_addr x.apart (PySem.mem_of_lookup h1) (PySem.mem_of_lookup h2)⟩
      · obtain ⟨u, hu, ru⟩ := zip_lookup (X := X) ps vs us y z r hy
        have hyp : y ∈ ps := by
          rw [← hkeys]; exact List.mem_map.mpr ⟨_, PySem.mem_of_lookup hu, rfl⟩
        refine ⟨u, Rep.less (X := X) (Y := X.push (callEnvC fd s.heap.objs.size f)) (fun a h => h) (fun _ _ e _ => e) _ _ (Rep.up X1.lists _ _ ru), ?_⟩
        have nd : ((ps.zip us).map (·.1)).Nodup := by rw [hkeys]; exact hf.nodup
        rcases hkind y hyp with h | h
        · refine .inl ⟨h, I.high, _, x.toInCall.ns, ?_⟩
          rw [bindL_get _ _ _ _ nd h, hu]
        · obtain ⟨c, hc⟩ := hC y h
          have hcell := x.cell y c hc
          rw [bindC_get _ _ _ _ nd (by rw [show (callEnvC fd s.heap.objs.size f).kindOf y = some .cell from h]; decide), hu] at hcell
          exact .inr ⟨.inl h, c, hc, Nat.le_trans I.high (Nat.le_of_lt (x.above y c (PySem.mem_of_lookup hc))), hcell⟩
      · have ab := x.above y c (PySem.mem_of_lookup ec)
        exact ⟨Nat.le_of_lt ab, (Nat.ne_of_lt ab).symm, _, x.cell y c ec⟩
    exact h _ _ s₁ rfl hE hC Fm
theorem Av.tabs.add (hT : X.tabs) (D : Addr) : (X.add D).tabs := hT
theorem bs_off {s s' : Shared} (hT : X.tabs) (I : Inv w X s) {l : List Addr} (k : ∀ b o, s.heap.get? b = some o → b ∉ l → s'.heap.get? b = some o) (h : ∀ b ∈ l, b ∈ ([34, 48, 62] : List Addr)) : ∀ b o, X.B b = some o → s'.heap.get? b = some o :=
  fun b o e => k b o (I.bs b o e) fun m => by rw [hT b (h b m)] at e; cases e
theorem fr_off {s s' : Shared} (I : Inv w X s) {l : List Addr} (k : ∀ b o, s.heap.get? b = some o → b ∉ l → s'.heap.get? b = some o) (h : ∀ b ∈ l, b < 95) : ∀ env ∈ X.fr, env.scope.kind ≠ .module ∧ ∃ L o, env.frame = some L ∧ 95 ≤ L ∧ X.B L = none ∧ s'.heap.get? L = some o ∧ tagOf o = 3 :=
  fun e he => let ⟨h1, L, o, h2, h3, h4, h5, h6⟩ := I.f e he; ⟨h1, L, o, h2, h3, h4, k L o h5 fun m => absurd h3 (Nat.not_le.mpr (h L m)), h6⟩
theorem g_blt {h : Heap} (I : KtIn (kt w.params) h) {P : Addr} (hP : P ≠ 4 := by decide) : h.BuiltinsAt (nsOf (gObj w)) P :=
  ⟨4, _, by kernel_rfl, by decide, by decide, hP.symm, I 4 _ rfl, rfl, rfl, rfl⟩
/-- a def made in a body: its code is new, or met in the table -/
theorem def_wp {P c : Addr} {l cc : Nat} {qual : Str} {params : Arguments} {body : List Stmt} {scope : Scope} {env : Env} {A : Around} {s : Shared} {Q : Value → Shared → Prop} {E : Value → Shared → Prop} {pos : Pos} {clos : List (Str × Addr)} (hl : pos.line = l) (hc : pos.col = cc) (T : TabP P l cc qual s.heap) (hP : P < 95) (hP4 : P ≠ 4) (hPg : mainGlobals ≠ P)
    (hcl : closureFor scope env = pure clos) (hge : env.globals = mainGlobals) (hcode : env.code = .ref c) (C : CodeHd s.heap c P) (I : Inv w X s)
    (hI : ∀ s', (∀ b o, s.heap.get? b = some o → b ∉ ([P] : List Addr) → s'.heap.get? b = some o) → TabP P l cc qual s'.heap → Inv w X s')
    (k : ∀ f s', Inv w X s' → Ext s s' → Made s'.heap f qual params body scope clos → Q (.ref f) s') :
    wpAny (model prg w) A (makeFunction nTold qual params (.stmts body) scope env [] [] [] pos pos.line) Q E s := by
  subst hl hc
  have ext : ∀ s', (∀ b o, s.heap.get? b = some o → b ∉ ([P] : List Addr) → s'.heap.get? b = some o) → TabP P pos.line pos.col qual s'.heap → Same s s' → Ext s s' := fun s' kp T' sm =>
    ⟨fun b o h9 _ e => kp b o e (fun m => by rw [List.mem_singleton.mp m] at h9; exact absurd h9 (Nat.not_le.mpr hP)), fun L m h9 n => ns_off n fun o e => kp _ _ e (fun m => by rw [List.mem_singleton.mp m] at h9; exact absurd h9 (Nat.not_le.mpr hP)), fun b o e => by
      by_cases h : b = P
      · subst h
        rcases T' with n | ⟨_, _, _, _, _, n, _⟩
        · exact ⟨_, n⟩
        · exact ⟨_, n⟩
      · exact ⟨o, kp b o e (by simpa using h)⟩, sm⟩
  rcases T with e | ⟨c', o, vs, t, c9, e, ec, dc, vc⟩
  · refine makeFunction_K (mg := nsOf (gObj w)) hcl hge (g_ns I.kt) hcode C e True.intro rfl hPg (g_blt I.kt hP4) fun c' ctv doc h' tk hx hge hlt hrec htb => ?_
    obtain ⟨c2, oc, vs, t, e1, e2, e3, e4⟩ := id hrec
    cases e1
    have kp : ∀ b o, s.heap.get? b = some o → b ∉ ([P] : List Addr) → (h'.push (fnMade nTold qual params body scope clos doc ((nsOf (gObj w) "__name__").getD .none) c' ctv)).get? b = some o := fun b o e hb => Heap.get?_push_of_some _ (hx b o (fun q => hb (by rw [q]; exact List.mem_singleton.mpr rfl)) e)
    have c9 : 95 ≤ c' := Nat.le_trans I.high hge
    have T' : TabP P pos.line pos.col qual (h'.push (fnMade nTold qual params body scope clos doc ((nsOf (gObj w) "__name__").getD .none) c' ctv)) := .inr ⟨c', oc, vs, t, c9, Heap.get?_push_of_some _ htb, Heap.get?_push_of_some _ e2, e3, e4⟩
    exact k _ _ (hI _ kp T') (ext _ kp T' ⟨rfl, rfl⟩) ⟨Nat.le_trans c9 (Nat.le_of_lt hlt), doc, _, c', ctv, Heap.get?_push_size _ rfl, c9, c', oc, vs, t, rfl, Heap.get?_push_of_some _ e2, e3, e4⟩
  · refine makeFunction_hit (mg := nsOf (gObj w)) (cv := .ref c') hcl hge (g_ns I.kt) hcode C e True.intro (by simp [codeAmong, rawInt]) (g_blt I.kt hP4) fun ctv doc h' tk kp0 hsz => ?_
    have kp : ∀ b o, s.heap.get? b = some o → b ∉ ([P] : List Addr) → (h'.push (fnMade nTold qual params body scope clos doc ((nsOf (gObj w) "__name__").getD .none) c' ctv)).get? b = some o := fun b o e hb => Heap.get?_push_of_some _ (kp0 b o e)
    have T' : TabP P pos.line pos.col qual (h'.push (fnMade nTold qual params body scope clos doc ((nsOf (gObj w) "__name__").getD .none) c' ctv)) := .inr ⟨c', o, vs, t, c9, Heap.get?_push_of_some _ (kp0 _ _ e), Heap.get?_push_of_some _ (kp0 _ _ ec), dc, vc⟩
    exact k _ _ (hI _ kp T') (ext _ kp T' ⟨rfl, rfl⟩) ⟨Nat.le_trans I.high hsz, doc, _, c', ctv, Heap.get?_push_size _ rfl, c9, c', o, vs, t, rfl, Heap.get?_push_of_some _ (kp0 _ _ ec), dc, vc⟩
theorem Inv.pop {env : Env} {s : Shared} (I : Inv w (X.push env) s) : Inv w X s := ⟨I.kt, I.n, I.k, I.r, I.x, I.bs, fun e he => I.f e (List.mem_cons_of_mem _ he)⟩
noncomputable def fd67 : FuncData := by run_tac fnLit 67 pure
noncomputable def bd67 : List Stmt := by run_tac fnLit 67 fun d => return d.getAppArgs[3]!.appArg!
theorem fn67 (w : World) : FnOk w 67 fd67 bd67 [nRel, nLikes, nNotes] where
  obj := ⟨_, rfl, rfl⟩
  code := ⟨_, _, _, _, rfl, rfl, rfl, rfl⟩
  body := rfl
  clo := rfl
  glob := rfl
  blt := rfl
  kind := rfl
  gen := rfl
  co := rfl
  nodup := by decide
  kinds := rfl
  bind := fun us h => by
    obtain ⟨_, u0, e0, h0⟩ := len_cons (n := 2) h
    obtain ⟨_, u1, e1, h1⟩ := len_cons (n := 1) h0
    obtain ⟨_, u2, e2, h2⟩ := len_cons (n := 0) h1
    rw [e0, e1, e2, len_nil h2]
    rfl
noncomputable def fd53 : FuncData := by run_tac fnLit 53 pure
noncomputable def bd53 : List Stmt := by run_tac fnLit 53 fun d => return d.getAppArgs[3]!.appArg!
theorem fn53 (w : World) : FnOk w 53 fd53 bd53 [nFalls] where
  obj := ⟨_, rfl, rfl⟩
  code := ⟨_, _, _, _, rfl, rfl, rfl, rfl⟩
  body := rfl
  clo := rfl
  glob := rfl
  blt := rfl
  kind := rfl
  gen := rfl
  co := rfl
  nodup := by decide
  kinds := rfl
  bind := fun us h => by
    obtain ⟨_, u0, e0, h0⟩ := len_cons (n := 0) h
    rw [e0, len_nil h0]
    rfl
theorem code66 {h : Heap} (I : KtIn (kt w.params) h) : CodeHd h 66 62 := ⟨_, _, _, _, _, _, _, _, _, I _ _ rfl, rfl, rfl, rfl, rfl, rfl, rfl, rfl, rfl, by decide⟩
theorem code52 {h : Heap} (I : KtIn (kt w.params) h) : CodeHd h 52 48 := ⟨_, _, _, _, _, _, _, _, _, I _ _ rfl, rfl, rfl, rfl, rfl, rfl, rfl, rfl, rfl, by decide⟩
theorem no62 : (kt w.params).get 62 = none := by kernel_rfl
theorem no48 : (kt w.params).get 48 = none := by kernel_rfl
theorem no4862 {P : Addr} {b : Addr} {o : Obj} (hP : P = 48 ∨ P = 62) (e : (kt w.params).get b = some o) : b ∉ ([P] : List Addr) := fun m => by
  rw [List.mem_singleton.mp m] at e
  rcases hP with rfl | rfl
  · rw [no48] at e; cases e
  · rw [no62] at e; cases e
/-- a cell's name in a frame -/
theorem Frm.cellAt {env : Env} {s₀ s : Shared} (F : Frm w X env s₀ s ρ) (hE : EnvIs K env) {x : Str} {v : Value} (hk : K.lookup x = some .cell) (h : ρ.lookup x = some (.val v)) : ∃ c, env.cells.lookup x = some c ∧ 95 ≤ c ∧ s.heap.IsCell c (some v) := by
  obtain ⟨u, r, b⟩ := F.H x _ h
  obtain rfl : u = v := r
  rcases b with ⟨a, _⟩ | ⟨_, c, e, c9, hc⟩
  · rw [hE.k, hk] at a; cases a
  · exact ⟨c, e, c9, hc⟩
/-- a made def is stored, and returned -/
theorem give_made {d : Nat} (hd : d < 500) {env : Env} {A : Around} {s₀ s : Shared} {Q : Flow → Shared → Prop} {E : Value → Shared → Prop} {f : Addr} {p1 p2 : Pos} (hA : Lv d A) (hE : EnvIs K env) (F : Frm w X env s₀ s ρ) (hk : K.lookup nTold = some .local)
    (k : ∀ s', Inv w X s' → Ext s₀ s' → (∀ b o, 95 ≤ b → tagOf o ≠ 3 → s.heap.get? b = some o → s'.heap.get? b = some o) → Q (.ret (.ref f)) s') :
    wpAny (model prg w) A (storeName env nTold (.ref f)) (fun _ s' => wpAny (model prg w) A (execs [.Return (some (.Name nTold p1)) p2] env) Q E s') E s := by
  refine st_name (v := .val (.ref f)) hE F hk rfl fun s2 F2 S2 kp2 sm2 => ?_
  refine wpAny_execs_cons (wpAny_Return_some (ev_name (φ := Lv d) rfl rfl env A s2 _ E hA (hA.ok (by omega)) hE F2.I F2.H fun u s3 I3 X3 r3 => ?_))
  obtain rfl : u = .ref f := r3
  obtain ⟨m, n⟩ := F.ns
  obtain ⟨oL, eL, tL⟩ := ns_tag n
  exact k s3 I3 (F2.ext.trans X3) fun b o h9 t e => X3.keep b o h9 t (kp2 b o (fun q => by rw [q, eL] at e; cases e; exact t tL) e)
/-- _law_noted -/
theorem noted_wp {d : Nat} (hd : d < 490) (hT : X.tabs) {A : Around} {s : Shared} {Q : Value → Shared → Prop} {E : Value → Shared → Prop} (hA : Lv d A) (I : Inv w X s) (rel nt : Addr) (lk : Int) (tl : Nat)
    (k : ∀ f s', Inv w X s' → Ext s s' → Noted w s'.heap f rel nt lk → Q (.ref f) s') : wpAny (model prg w) A (call (.ref 67) [.ref rel, .int lk tl, .ref nt]) Q E s := by
  refine wpAny_call (enter_push (vs := [.val (.ref rel), .val (.int lk tl), .val (.ref nt)]) (fn67 w) rfl (Nat.le_trans hA.2.1 (by omega)) I ⟨_, _, rfl, rfl, _, _, rfl, rfl, _, _, rfl, rfl, rfl⟩ fun E' env s₁ he hE hC F => ?_)
  have lv : Lv (d + 1) (A.deeper env) := (Lv.deeper (by omega) A env hA (hA.ok (by omega))).1
  obtain ⟨c1, ec1, c19, hc1⟩ := F.cellAt (x := nRel) (v := .ref rel) hE rfl rfl
  obtain ⟨c2, ec2, c29, hc2⟩ := F.cellAt (x := nLikes) (v := .int lk tl) hE rfl rfl
  obtain ⟨c3, ec3, c39, hc3⟩ := F.cellAt (x := nNotes) (v := .ref nt) hE rfl rfl
  have hq : qualnameIn env nTold nTold = qToldN := by subst he; kernel_rfl
  delta bd67
  refine wpAny_execs_cons (nestDef_K rfl rfl rfl ?_)
  rw [show (⟨#[116, 111, 108, 100]⟩ : Str) = nTold from rfl, hq]
  have hT' : (X.push env).tabs := hT
  refine def_wp (P := 62) (c := 66) (clos := [(nRel, c1), (nNotes, c3), (nLikes, c2)]) rfl rfl F.I.n (by decide) (by decide) (by decide) ?_ hE.glob (by subst he; rfl) (code66 F.I.kt) F.I (fun s' kp T' => ?_) fun f s2 I2 X2 M2 => ?_
  · unfold closureFor
    unfold nRel at ec1
    unfold nLikes at ec2
    unfold nNotes at ec3
    simp [cellOf, ec1, ec2, ec3]
    rfl
  · exact ⟨fun b o e => kp b o (F.I.kt b o e) (no4862 (.inr rfl) e), T', TabK.keeps F.I.k kp (by decide) (by decide), TabR.keeps F.I.r kp (by decide) (by decide), fun a ha => let ⟨h9, o, e⟩ := F.I.x a ha; ⟨h9, o, kp _ _ e (high_off h9 (by decide))⟩, bs_off hT' F.I kp (by decide), fr_off F.I kp (by decide)⟩
  have F2 := F.up I2 X2
  refine give_made (d := d + 1) (by omega) lv hE F2 rfl fun s3 I3 X3 k23 => ?_
  have cu : ∀ {c v}, 95 ≤ c → s₁.heap.IsCell c v → s3.heap.IsCell c v := fun c9 ⟨o, h1, h2⟩ => by
    have t : tagOf o ≠ 3 := by unfold tagOf; rw [h2]; show (6 : Nat) ≠ 3; decide
    exact ⟨o, k23 _ _ c9 t (X2.keep _ _ c9 t h1), h2⟩
  exact k f s3 I3.pop X3 ⟨c1, c2, c3, tl, M2.up fun b o h9 t _ e => k23 b o h9 t e, ⟨c19, c29, c39⟩, cu c19 hc1, cu c29 hc2, cu c39 hc3⟩
/-- _law_rules -/
theorem rules_wp {d : Nat} (hd : d < 490) (hT : X.tabs) {A : Around} {s : Shared} {Q : Value → Shared → Prop} {E : Value → Shared → Prop} (hA : Lv d A) (I : Inv w X s) (fl : Int) (tf : Nat)
    (k : ∀ f s', Inv w X s' → Ext s s' → RelIs w s'.heap f (rulesV fl) → Q (.ref f) s') : wpAny (model prg w) A (call (.ref 53) [.int fl tf]) Q E s := by
  refine wpAny_call (enter_push (vs := [.val (.int fl tf)]) (fn53 w) rfl (Nat.le_trans hA.2.1 (by omega)) I ⟨_, _, rfl, rfl, rfl⟩ fun E' env s₁ he hE hC F => ?_)
  have lv : Lv (d + 1) (A.deeper env) := (Lv.deeper (by omega) A env hA (hA.ok (by omega))).1
  obtain ⟨c1, ec1, c19, hc1⟩ := F.cellAt (x := nFalls) (v := .int fl tf) hE rfl rfl
  have hq : qualnameIn env nTold nTold = qToldR := by subst he; kernel_rfl
  delta bd53
  refine wpAny_execs_cons (nestDef_K rfl rfl rfl ?_)
  rw [show (⟨#[116, 111, 108, 100]⟩ : Str) = nTold from rfl, hq]
  have hT' : (X.push env).tabs := hT
  refine def_wp (P := 48) (c := 52) (clos := [(nFalls, c1)]) rfl rfl F.I.r (by decide) (by decide) (by decide) ?_ hE.glob (by subst he; rfl) (code52 F.I.kt) F.I (fun s' kp T' => ?_) fun f s2 I2 X2 M2 => ?_
  · unfold closureFor
    unfold nFalls at ec1
    simp [cellOf, ec1]
    rfl
  · exact ⟨fun b o e => kp b o (F.I.kt b o e) (no4862 (.inl rfl) e), TabN.keeps F.I.n kp (by decide) (by decide), TabK.keeps F.I.k kp (by decide) (by decide), T', fun a ha => let ⟨h9, o, e⟩ := F.I.x a ha; ⟨h9, o, kp _ _ e (high_off h9 (by decide))⟩, bs_off hT' F.I kp (by decide), fr_off F.I kp (by decide)⟩
  have F2 := F.up I2 X2
  refine give_made (d := d + 1) (by omega) lv hE F2 rfl fun s3 I3 X3 k23 => ?_
  have cu : ∀ {c v}, 95 ≤ c → s₁.heap.IsCell c v → s3.heap.IsCell c v := fun c9 ⟨o, h1, h2⟩ => by
    have t : tagOf o ≠ 3 := by unfold tagOf; rw [h2]; show (6 : Nat) ≠ 3; decide
    exact ⟨o, k23 _ _ c9 t (X2.keep _ _ c9 t h1), h2⟩
  exact k f s3 I3.pop X3 (.rules f fl tf c1 (M2.up fun b o h9 t _ e => k23 b o h9 t e) c19 (cu c19 hc1))
end Vl
end
section
open PySem PySem.W PySem.W.X PyProof.Rows
set_option Elab.async false
set_option maxRecDepth 100000
set_option maxHeartbeats 4000000
set_option linter.unusedVariables false
namespace Vl
open Mine Lean Meta Elab Tactic
variable {w : World} {X : Av} {φ : Around → Prop} {K : List (Str × NameKind)} {ρ : List (Str × V)}
noncomputable def fd74 : FuncData := by run_tac fnLit 74 pure
noncomputable def bd74 : List Stmt := by run_tac fnLit 74 fun d => return d.getAppArgs[3]!.appArg!
noncomputable def ks74 : List (Str × NameKind) := by run_tac fnLit 74 fun d => return d.getAppArgs[4]!.getAppArgs[1]!
noncomputable def ps74 : List Str := by run_tac fnLit 74 fun d => do
  let a ← listOf d.getAppArgs[2]!.getAppArgs[1]!
  return listE (mkConst ``Str) (a.map fun x => x.getAppArgs[0]!)
theorem fn74 (w : World) : FnOk w 74 fd74 bd74 ps74 where
  obj := ⟨_, rfl, rfl⟩
  code := ⟨_, _, _, _, rfl, rfl, rfl, rfl⟩
  body := rfl
  clo := rfl
  glob := rfl
  blt := rfl
  kind := rfl
  gen := rfl
  co := rfl
  nodup := by decide
  kinds := rfl
  bind := fun us h => by
    obtain ⟨_, u0, e0, h0⟩ := len_cons (n := 6) h
    obtain ⟨_, u1, e1, h1⟩ := len_cons (n := 5) h0
    obtain ⟨_, u2, e2, h2⟩ := len_cons (n := 4) h1
    obtain ⟨_, u3, e3, h3⟩ := len_cons (n := 3) h2
    obtain ⟨_, u4, e4, h4⟩ := len_cons (n := 2) h3
    obtain ⟨_, u5, e5, h5⟩ := len_cons (n := 1) h4
    obtain ⟨_, u6, e6, h6⟩ := len_cons (n := 0) h5
    rw [e0, e1, e2, e3, e4, e5, e6, len_nil h6]
    rfl
def nCmp : Str := ⟨#[99, 109, 112, 95, 116, 111, 95, 107, 101, 121]⟩
def nNoted : Str := ⟨#[95, 108, 97, 119, 95, 110, 111, 116, 101, 100]⟩
def nBL : Str := ⟨#[98, 105, 115, 101, 99, 116, 95, 108, 101, 102, 116]⟩
def nBR : Str := ⟨#[98, 105, 115, 101, 99, 116, 95, 114, 105, 103, 104, 116]⟩
def nSide : Str := ⟨#[115, 105, 100, 101]⟩
def nSought : Str := ⟨#[115, 111, 117, 103, 104, 116]⟩
def nRow : Str := ⟨#[114, 111, 119]⟩
def nPlace : Str := ⟨#[112, 108, 97, 99, 101]⟩
def nErr : Str := ⟨#[101, 114, 114, 111, 114]⟩
def nStr : Str := ⟨#[115, 116, 114]⟩
theorem gl_cmp (w : World) : Glb w nCmp (.ref 39) := .inl (by kernel_rfl)
theorem gl_noted (w : World) : Glb w nNoted (.ref 67) := .inl (by kernel_rfl)
theorem gl_bl (w : World) : Glb w nBL (.ref 32) := .inl (by kernel_rfl)
theorem gl_br (w : World) : Glb w nBR (.ref 23) := .inl (by kernel_rfl)
theorem gl_str (w : World) : Glb w nStr (.type "str") := .inr ⟨by kernel_rfl, by kernel_rfl⟩
/-- a def called, its outcome said behind it -/
theorem callF_wp {x : Str} {np pos : Pos} {f : Addr} {o : Obj} {e : PySem.Expr} {es : List PySem.Expr} {vs : List V} {env : Env} {A : Around} {s : Shared} {Q : Value → Shared → Prop} {E : Value → Shared → Prop} (hk : K.lookup x = some .globalImplicit) (hd : (x == ("__debug__" : Str)) = false) (g : Glb w x (.ref f)) (ho : (kt w.params).get f = some o) (hf : isFn o = true)
    (he : ∀ env, starEach (e :: es) env = (false, eval e env) :: starEach es env) (ha : EvL w φ X K ρ (e :: es) vs) (c : φ A ∧ AOk A ∧ EnvIs K env) (I : Inv w X s) (H : Has X env s.heap ρ)
    (k : ∀ us s', Inv w X s' → Ext s s' → RepL X s'.heap vs us → wpAny (model prg w) A (call (.ref f) us) Q E s') : wpAny (model prg w) A (eval (.Call (.Name x np) (e :: es) [] pos) env) Q E s := by
  obtain ⟨fd, hfd⟩ : ∃ fd, o.data = .func fd := by
    unfold isFn at hf
    cases q : o.data with
    | func fd => exact ⟨fd, rfl⟩
    | _ => rw [q] at hf; simp at hf
  refine wpAny_Call_ofName (glob_wp c.2.2 I hk hd g ?_)
  refine Calls.callWith_function (o := o) (fd := fd) ?_
  have hA' := ha env A pos s
  rw [plain_back he] at hA' ⊢
  exact Calls.evalArgs_plain (hA' _ E c.1 c.2.1 c.2.2 I H fun us s1 I1 X1 r1 => ⟨⟨I1.kt _ _ ho, hfd⟩, k us s1 I1 X1 r1⟩)
theorem kRel_59 (w : World) (f : Addr) (a : Nat → Addr) (τ : Nat → Nat) : ∀ p ∈ kRel w f a τ, p.1 = a 59 ∨ tagOf p.2 ≠ 3 := by
  have h1 : (kRel w f a τ).map (fun p => (p.1, Nat.beq (tagOf p.2) 3)) = [(a 60, false), (a 59, true), (a 61, false), (a 15, false), (a 16, false), (a 23, false), (a 24, false), (a 1, false)] := by kernel_rfl
  intro p hp
  have : (p.1, Nat.beq (tagOf p.2) 3) ∈ (kRel w f a τ).map (fun p => (p.1, Nat.beq (tagOf p.2) 3)) := List.mem_map.mpr ⟨p, hp, rfl⟩
  rw [h1] at this
  have no : Nat.beq (tagOf p.2) 3 = false → tagOf p.2 ≠ 3 := fun h e => by rw [e] at h; cases h
  simp only [List.mem_cons, List.not_mem_nil, or_false, Prod.mk.injEq] at this
  rcases this with h | h | h | h | h | h | h | h
  · exact .inr (no h.2)
  · exact .inl h.1
  all_goals exact .inr (no h.2)
/-- key = cmp_to_key(_law_noted(relation, likes, notes)) -/
theorem key_wp {d : Nat} (hd : d < 480) {env : Env} {A : Around} {s : Shared} {Q : Value → Shared → Prop} {E : Value → Shared → Prop} (hT : X.tabs) (hA : Lv d A) (hE : EnvIs ks74 env) (I : Inv w X s) (H : Has X env s.heap ρ) {rel : Addr} {lk : Int} {vn : V} {np1 np2 np3 np4 np5 p1 p2 : Pos}
    (h1 : ρ.lookup nRel = some (.val (.ref rel))) (h2 : ρ.lookup nLikes = some (.int lk)) (h3 : ρ.lookup nNotes = some vn) (hn : ∀ h u, Rep X h vn u → ∃ nt, u = .ref nt)
    (k : ∀ nt told a τ s', Inv w X s' → Ext s s' → (∀ b o, s.heap.get? b = some o → b ≠ a 59) → Facts s'.heap (kRel w told a τ) → 95 ≤ a 1 → Rep X s'.heap vn (.ref nt) → Noted w s'.heap told rel nt lk → Q (.ref (a 60)) s') :
    wpAny (model prg w) A (eval (.Call (.Name nCmp np1) [.Call (.Name nNoted np2) [.Name nRel np3, .Name nLikes np4, .Name nNotes np5] [] p1] [] p2) env) Q E s := by
  have c : Lv d A ∧ AOk A ∧ EnvIs ks74 env := ⟨hA, hA.ok (by omega), hE⟩
  obtain ⟨o39, e39, fdd, d39⟩ : ∃ o, (kt w.params).get 39 = some o ∧ ∃ fd, o.data = .func fd := ⟨_, rfl, _, rfl⟩
  refine wpAny_Call_ofName (glob_wp hE I rfl rfl (gl_cmp w) ?_)
  refine Calls.callWith_function (o := o39) (fd := fdd) ?_
  refine Calls.evalArgs_plain (x := eval (.Call (.Name nNoted np2) [.Name nRel np3, .Name nLikes np4, .Name nNotes np5] [] p1) env) (rest := []) (Calls.spliced_cons ?_)
  refine callF_wp (φ := Lv d) (vs := [.val (.ref rel), .int lk, vn]) rfl rfl (gl_noted w) rfl rfl (fun _ => rfl) (evl_cons (ev_name h1 rfl) (evl_cons (ev_name h2 rfl) (evl_cons (ev_name h3 rfl) evl_nil (fun _ => rfl)) (fun _ => rfl)) (fun _ => rfl)) c I H fun us s1 I1 X1 r1 => ?_
  obtain ⟨v1, r, rfl, e1, v2, r', rfl, ⟨tl, e2⟩, v3, r'', rfl, e3, e4⟩ := r1
  obtain rfl : v1 = .ref rel := e1
  obtain ⟨nt, rfl⟩ := hn _ _ e3
  subst e2
  obtain rfl : r'' = [] := e4
  refine noted_wp (d := d) (by omega) hT hA I1 rel nt lk tl fun f s2 I2 X2 N2 => ?_
  refine Calls.spliced_nil ⟨⟨I2.kt _ _ e39, d39⟩, ?_⟩
  refine wpAny_call (codeAny_mono (weaken (cmp_call w s2 I2.kt f I2.k) c.2.1.hd (Nat.ble_eq_true_of_le (Nat.le_trans c.2.1.dp (by decide))) rfl rfl (Nat.ble_eq_true_of_le (Nat.le_trans c.2.1.un (by decide)))) fun r s3 hq => ?_)
  obtain ⟨a', τ', rfl, F', n60, n59, h9', c', K'', kp', sm'⟩ := hq
  have I3 : Inv w X s3 := ⟨K'', TabN.keeps I2.n kp' (by decide) (by decide), c', TabR.keeps I2.r kp' (by decide) (by decide), fun a ha => let ⟨h9, o, e⟩ := I2.x a ha; ⟨h9, o, kp' _ _ e (high_off h9 (by decide))⟩, bs_off hT I2 kp' (by decide), fr_off I2 kp' (by decide)⟩
  have X3 : Ext s2 s3 := ⟨fun b o h9 _ e => kp' b o e (high_off h9 (by decide)), fun L m h9 n => ns_off n fun o e => kp' _ _ e (high_off h9 (by decide)), fun b o e => by
    by_cases h : b ∈ ([34] : List Addr)
    · rw [List.mem_singleton.mp h]
      rcases c' with n | ⟨a, τ, f, _⟩
      · exact ⟨_, n⟩
      · exact ⟨_, f.1⟩
    · exact ⟨o, kp' b o e h⟩, sm'⟩
  have X23 := (X1.trans X2)
  refine k nt f a' τ' s3 I3 (X23.trans X3) (fun b o e q => ?_) F' (h9' 1) (Rep.up (X2.trans X3).lists _ _ e3) (N2.up fun b o h9 t _ e => X3.keep b o h9 t e)
  obtain ⟨o', e'⟩ := X23.al b o e
  rw [q, n59] at e'; cases e'
end Vl
end
section
open PySem PySem.W PySem.W.X PyProof.Rows
set_option Elab.async false
set_option maxRecDepth 100000
set_option maxHeartbeats 4000000
set_option linter.unusedVariables false
namespace Vl
open Mine
variable {w : World} {X : Av} {φ : Around → Prop} {K : List (Str × NameKind)} {ρ : List (Str × V)}
theorem NotesAt.less {l l' : List Addr} {h : Heap} (s : ∀ a, a ∈ l' → a ∈ l) : ∀ {vs : List Value} {L : List (Int × Int)}, NotesAt l h vs L → NotesAt l' h vs L
  | [], [], _ => True.intro
  | _ :: _, _ :: _, ⟨⟨e, t1, t2, m, ev, e9, ex, g⟩, r⟩ => ⟨⟨e, t1, t2, m, ev, e9, fun q => ex (s _ q), g⟩, NotesAt.less s r⟩
/-- a new list is noted as one in the making -/
theorem Frm.addNew {env : Env} {s₀ s s' : Shared} (F : Frm w X env s₀ s ρ) {o : Obj} (hs' : s'.heap = s.heap.push o) (hsm : Same s s') (hfr : o.isFreed = false) : Frm w (X.add s.heap.objs.size) env s₀ s' ρ := by
  have kp : ∀ b o', s.heap.get? b = some o' → s'.heap.get? b = some o' := fun b o' e => by rw [hs']; exact Heap.get?_push_of_some _ e
  have x : Ext s s' := Ext.of kp hsm
  have I' := F.I.of kp
  have gn : s'.heap.get? s.heap.objs.size = some o := by rw [hs']; exact Heap.get?_push_size _ hfr
  have F' := F.up I' x
  refine ⟨⟨I'.kt, I'.n, I'.k, I'.r, fun b hb => ?_, I'.bs, I'.f⟩, fun y v e => ?_, F'.ext, F'.hi, ⟨fun b hb => ?_, F'.ox.2⟩, F'.loc, F'.ns, F'.cell, F'.apart⟩
  · rcases List.mem_cons.mp hb with rfl | hb
    · exact ⟨F.I.high, o, gn⟩
    · exact I'.x b hb
  · obtain ⟨u, r, b⟩ := F.H y v e
    exact ⟨u, Rep.up x.lists _ _ (Rep.more get_size _ _ r), b.up x⟩
  · rcases List.mem_cons.mp hb with rfl | hb
    · obtain ⟨m, ns⟩ := F.ns
      obtain ⟨oL, eL, _⟩ := ns_tag ns
      exact ⟨fun q => absurd (Heap.lt_size eL) (by rw [← q]; exact Nat.lt_irrefl _), fun y c ec q => by
        obtain ⟨_, _, v, oc, e, _⟩ := F.cell y c ec
        exact absurd (Heap.lt_size e) (by rw [← q]; exact Nat.lt_irrefl _)⟩
    · exact F'.ox.1 b hb
theorem Inv.drop {D : Addr} {s : Shared} (I : Inv w (X.add D) s) : Inv w X s := ⟨I.kt, I.n, I.k, I.r, fun a h => I.x a (List.mem_cons_of_mem _ h), I.bs, I.f⟩
/-- a bisect called with its key -/
theorem bisect_wp {d : Nat} (hd : d < 500) {env : Env} {A : Around} {s₀ s : Shared} {Q : Value → Shared → Prop} {E : Value → Shared → Prop} {first : Bool} {f : Addr} {o : Obj} {fd : FuncData} (hA : Lv d A) (hE : EnvIs ks74 env) (F : Frm w X env s₀ s ρ) {nt : Addr} (hX : nt ∈ X.l) (nb : X.B nt = none) (h0 : s₀.heap.get? nt = none) {nn : Nat} (hnt : s.heap.get? nt = some (lst #[] nn))
    (ho : (kt w.params).get f = some o) (hdt : o.data = .func fd) (hB : BisPos w first f) {nB : Str} (hk : ks74.lookup nB = some .globalImplicit) (hdb : (nB == ("__debug__" : Str)) = false) (gB : Glb w nB (.ref f))
    {told rel : Addr} {lk : Int} {a : Nat → Addr} {τ : Nat → Nat} {g : Int → Int → Int → Int → Int} (hK : Facts s.heap (kRel w told a τ)) (a1 : 95 ≤ a 1) (hN : Noted w s.heap told rel nt lk) (hR : RelIs w s.heap rel g) {c0 c1 : Nat → Int} {n : Nat} (hn80 : n ≤ 800) {q0 q1 q2 : Int} {lo hi : Nat} (hhi : hi ≤ n) {vh : V} (hvh : vh = .int (hi : Int) ∨ (vh = .none ∧ hi = n)) {np p1 p2 p3 p4 p5 p6 p7 kp pos : Pos}
    (h1 : ρ.lookup nRow = some (.list (rowV c0 c1 n))) (h2 : ρ.lookup nKey = some (.val (.ref (a 60)))) (h3 : ρ.lookup nSought = some (.list [.int q0, .int q1, .int q2])) (h4 : ρ.lookup nLo = some (.int (lo : Int))) (h5 : ρ.lookup nHi = some vh)
    (k : ∀ t s' vs m, Frm w X env s₀ s' ρ → s'.heap.get? nt = some (lst vs m) → NotesAt X.l s'.heap vs.toList ((bis (goB first lk g c0 c1 q0 q1) (hi - lo) lo hi).2.map (noteB first q2)) → Q (.int ((bis (goB first lk g c0 c1 q0 q1) (hi - lo) lo hi).1 : Nat) t) s') :
    wpAny (model prg w) A (eval (.Call (.Name nB np) [.Name nRow p1, .Call (.Name nKey p2) [.Name nSought p3] [] p4, .Name nLo p5, .Name nHi p6] [⟨some nKey, .Name nKey p7, kp⟩] pos) env) Q E s := by
  refine wpAny_Call_ofName (glob_wp hE F.I hk hdb gB ?_)
  refine callWith_function_kw (o := o) (fd := fd) ?_
  refine evalArgs_kw (x := eval (.Name nRow p1) env) (rest := [(false, eval (.Call (.Name nKey p2) [.Name nSought p3] [] p4) env), (false, eval (.Name nLo p5) env), (false, eval (.Name nHi p6) env)]) rfl ?_
  refine Calls.spliced_cons (name_wp hE F.H h1 rfl fun u1 r1 => ?_)
  refine Calls.spliced_cons (knew_wp (d := d) (by omega) hA hE F.I F.H hK h2 (ev_name h3 rfl) (fun _ => rfl) fun xi dx so s2 k2 sm2 rs ei => ?_)
  have X2 := Ext.of k2 sm2
  have I2 := F.I.of k2
  have F2 := F.up I2 X2
  refine Calls.spliced_cons (name_wp hE F2.H h4 rfl fun ul rl => ?_)
  refine Calls.spliced_cons (name_wp hE F2.H h5 rfl fun uh rh => ?_)
  refine Calls.spliced_nil ?_
  show wpAny (model prg w) A (evalAll [(do let v ← eval (.Name nKey p7) env; standAt pos; pure v)]) _ E s2
  refine wpAny_evalAll_cons (wpAny_bind (name_wp hE F2.H h2 rfl fun uk rk => ?_))
  obtain rfl : uk = .ref (a 60) := rk
  refine wpAny_bind (wpAny_standAt (wpAny_pure (wpAny_evalAll_nil ⟨⟨I2.kt _ _ ho, hdt⟩, ?_⟩)))
  obtain ⟨tl, rfl⟩ := rl
  obtain ⟨ra, rvs, rn, rfl, rr⟩ := id r1
  obtain ⟨t, t0, t1, t2, m, e, t9, tx, gt⟩ := three rs
  cases e
  have hhv : (∃ th, uh = .int hi th) ∨ (uh = .none ∧ hi = n) := by
    rcases hvh with rfl | ⟨rfl, e⟩
    · exact .inl rh
    · exact .inr ⟨rh, e⟩
  refine wpAny_call (hB (by omega) hA ⟨I2, hX, nb, ⟨_, _, k2 _ _ hnt⟩, hK.of fun q _ e => k2 _ _ e, a1, hN.up fun b o _ _ _ e => k2 b o e, hR.up fun b o _ _ _ e => k2 b o e, ⟨dx, ei⟩, three_rep t9 tx gt, Rep.up X2.lists _ _ r1⟩ hn80 (k2 _ _ hnt) hhv hhi fun t s' vs m k3 sm3 nt3 N3 => ?_)
  exact k t s' vs m (F2.note hX h0 (k2 _ _ hnt) (I2.note hX nb (k2 _ _ hnt) nt3 k3) k3 sm3) nt3 N3
end Vl
end
section
open PySem PySem.W PySem.W.X PyProof.Rows
set_option Elab.async false
set_option maxRecDepth 100000
set_option maxHeartbeats 4000000
set_option linter.unusedVariables false
namespace Vl
open Mine
variable {w : World} {X : Av} {φ : Around → Prop} {K : List (Str × NameKind)} {ρ : List (Str × V)}
/-- what a search gives -/
def resB (first : Bool) (lk : Int) (g : Int → Int → Int → Int → Int) (c0 c1 : Nat → Int) (q0 q1 q2 : Int) (lo hi : Nat) : V := .list [.int ((bis (goB first lk g c0 c1 q0 q1) (hi - lo) lo hi).1 : Nat), .list (((bis (goB first lk g c0 c1 q0 q1) (hi - lo) lo hi).2.map (noteB first q2)).map pairV)]
theorem ret_found {env : Env} {A : Around} {s₀ s : Shared} {Q : Flow → Shared → Prop} {E : Value → Shared → Prop} {nt : Addr} {P : Int} {L : List (Int × Int)} {vs : Array Value} {m : Nat} (hE : EnvIs K env) (F : Frm w (X.add nt) env s₀ s ρ) (n9 : 95 ≤ nt) (nX : nt ∉ X.l) (h1 : ρ.lookup nPlace = some (.int P)) (h2 : ρ.lookup nNotes = some (.val (.ref nt))) (hnt : s.heap.get? nt = some (lst vs m)) (hN : NotesAt (X.add nt).l s.heap vs.toList L) {q1 q2 q3 q4 : Pos} {ss : List Stmt}
    (k : ∀ u s', Inv w X s' → Ext s₀ s' → Rep X s'.heap (.list [.int P, .list (L.map pairV)]) u → Q (.ret u) s') : wpAny (model prg w) A (execs (.Return (some (.List [.Name nPlace q1, .Name nNotes q2] q3)) q4 :: ss) env) Q E s := by
  refine wpAny_execs_cons (wpAny_Return_some (wpAny_List ?_))
  refine spliced_more (name_wp hE F.H h1 rfl fun u r => ?_) rfl
  obtain ⟨t, rfl⟩ := r
  refine spliced_more (name_wp hE F.H h2 rfl fun u r => spliced_none ?_) rfl
  obtain rfl : u = .ref nt := r
  refine ⟨by show (2 : Nat) ≤ sizeLine; unfold sizeLine; omega, ?_⟩
  have Xp := ext_push s { cls := .type "list", data := .seq ([.int P t, .ref nt] : List Value).toArray } s.toks
  have Ip := inv_push F.I { cls := .type "list", data := .seq ([.int P t, .ref nt] : List Value).toArray } s.toks
  refine k _ _ Ip.drop (F.ext.trans Xp) ⟨s.heap.objs.size, ([.int P t, .ref nt] : List Value).toArray, 0, rfl, F.I.high, fun q => F.I.new (List.mem_cons_of_mem _ q), by rw [lst_is]; exact Heap.get?_push_size _ rfl, .int P t, [.ref nt], rfl, ⟨t, rfl⟩, .ref nt, [], rfl, ?_, rfl⟩
  exact ⟨nt, vs, m, rfl, n9, nX, Heap.get?_push_of_some _ hnt, (NotesAt.less (fun a h => List.mem_cons_of_mem _ h) (hN.up fun e o _ _ g _ => Heap.get?_push_of_some _ g)).rep⟩
theorem search_wp {d : Nat} (hd : d < 470) (first : Bool) (hT : X.tabs) {A : Around} {s : Shared} {Q : Value → Shared → Prop} {E : Value → Shared → Prop} (hA : Lv d A) (I : Inv w X s) {rel : Addr} {g : Int → Int → Int → Int → Int} (R : RelIs w s.heap rel g) {c0 c1 : Nat → Int} {n : Nat} (hn80 : n ≤ 800) {q0 q1 q2 lk : Int} {lo hi : Nat} (hhi : hi ≤ n) {vh : V} (hvh : vh = .int (hi : Int) ∨ (vh = .none ∧ hi = n)) {us : List Value}
    (r : RepL X s.heap [.int (if first then 0 else 1), .list (rowV c0 c1 n), .list [.int q0, .int q1, .int q2], .val (.ref rel), .int lk, .int lo, vh] us)
    (k : ∀ u s', Inv w X s' → Ext s s' → Rep X s'.heap (resB first lk g c0 c1 q0 q1 q2 lo hi) u → Q u s') : wpAny (model prg w) A (call (.ref 74) us) Q E s := by
  refine wpAny_call (enter_push (fn74 w) rfl (Nat.le_trans hA.2.1 (by omega)) I r fun E' env s₁ he hE hC F => ?_)
  have lv : Lv (d + 1) (A.deeper env) := (Lv.deeper (by omega) A env hA (hA.ok (by omega))).1
  have hAo : AOk (A.deeper env) := lv.ok (by omega)
  have X1 := F.ext
  delta bd74
  -- notes = []
  refine wpAny_execs_cons (wpAny_Assign_Name (wpAny_List (spliced_none ⟨by show (0 : Nat) ≤ sizeLine; unfold sizeLine; omega, ?_⟩)) rfl)
  have nt0 : s₁.heap.get? s₁.heap.objs.size = none := get_size
  have ntS : s.heap.get? s₁.heap.objs.size = none := by
    cases q : s.heap.get? s₁.heap.objs.size with
    | none => rfl
    | some o => obtain ⟨o', e⟩ := X1.al _ o q; rw [nt0] at e; cases e
  have nb : (X.push env).B s₁.heap.objs.size = none := F.I.nb nt0
  have nX : s₁.heap.objs.size ∉ X.l := F.I.new
  have n9 := F.I.high
  have F2 := F.addNew (s' := { s₁ with heap := s₁.heap.push { cls := .type "list", data := .seq ([] : List Value).toArray } }) rfl ⟨rfl, rfl⟩ rfl
  have hnt2 : (s₁.heap.push { cls := .type "list", data := .seq ([] : List Value).toArray }).get? s₁.heap.objs.size = some (lst #[] 0) := by rw [lst_is]; exact Heap.get?_push_size _ rfl
  generalize hs2 : ({ s₁ with heap := s₁.heap.push { cls := .type "list", data := .seq ([] : List Value).toArray } } : Shared) = s2 at F2
  have hnt2' : s2.heap.get? s₁.heap.objs.size = some (lst #[] 0) := by rw [← hs2]; exact hnt2
  have R2 : RelIs w s2.heap rel g := R.ext F2.ext
  generalize s₁.heap.objs.size = nt at *
  have t3 : tagOf (lst #[] 0) ≠ 3 := by show (2 : Nat) ≠ 3; decide
  have t6 : tagOf (lst #[] 0) ≠ 6 := by show (2 : Nat) ≠ 6; decide
  have hX : nt ∈ ((X.push env).add nt).l := List.mem_cons_self
  refine st_name (v := .val (.ref nt)) hE F2 rfl rfl fun s3 F3 S3 _ _ => ?_
  have nt3 := S3.keep _ _ n9 t3 t6 hnt2'
  -- key
  refine wpAny_execs_cons (wpAny_Assign_Name (key_wp (d := d + 1) (by omega) (X := (X.push env).add nt) hT lv hE F3.I F3.H rfl rfl rfl (fun h u r => ⟨nt, r⟩) fun nt' told a τ s4 I4 X4 n59 hK a1 e4 hN => ?_) rfl)
  obtain rfl : nt' = nt := Value.ref.inj e4
  have F4 := F3.up I4 X4
  obtain ⟨m4, n4⟩ := F4.ns
  obtain ⟨oL, eL, tL⟩ := ns_tag n4
  obtain ⟨m3, n3⟩ := F3.ns
  obtain ⟨o3, e3, _⟩ := ns_tag n3
  have R4 : RelIs w s4.heap rel g := by
    have := R.ext F4.ext
    exact this
  refine st_name (v := .val (.ref (a 60))) hE F4 rfl rfl fun s5 F5 S5 kp5 sm5 => ?_
  have k5 : ∀ b o, 95 ≤ b → tagOf o ≠ 3 → s4.heap.get? b = some o → s5.heap.get? b = some o := fun b o _ t e => kp5 b o (fun q => by rw [q, eL] at e; cases e; exact t tL) e
  have hK5 : Facts s5.heap (kRel w told a τ) := hK.of fun p hp e => kp5 _ _ (fun q => by
    rcases kRel_59 w told a τ p hp with h | h
    · exact n59 _ _ e3 (q ▸ h)
    · rw [q, eL] at e; cases e; exact h tL) e
  have hN5 := hN.up fun b o h9 t _ e => k5 b o h9 t e
  have R5 : RelIs w s5.heap rel g := R4.up fun b o h9 t _ e => k5 b o h9 t e
  have nt5 := k5 _ _ n9 t3 (X4.keep _ _ n9 t3 nt3)
  -- the search, and what is told
  refine wpAny_execs_cons (wpAny_Try_except ?_)
  refine wpAny_execs_cons (wpAny_If (tr_cmp (φ := Lv (d + 1)) (ev_name rfl rfl) ev_int cmp_eq rfl env (A.deeper env) s5 _ _ lv hAo hE F5.I.all (F5.H.all F5.I) fun s6 I6 X6 => ?_))
  have k56 := I6.bs
  have F6 := F5.up (F5.I.of k56) X6
  have hK6 := hK5.of fun p _ e => k56 _ _ e
  have hN6 := hN5.up fun b o _ _ _ e => k56 b o e
  have R6 : RelIs w s6.heap rel g := R5.up fun b o _ _ _ e => k56 b o e
  have nt6 := k56 _ _ nt5
  clear hK5 hN5 R5 nt5 hK hN R4 R2 R k56 I6 X6 k5 kp5 sm5 F5 S5 S3 nt3 F3 F4 n59
  cases first with
  | true =>
    refine wpAny_execs_cons (wpAny_Assign_Name (bisect_wp (d := d + 1) (by omega) lv hE F6 hX nb ntS nt6 rfl rfl bisL_wp rfl rfl (gl_bl w) hK6 a1 hN6 R6 hn80 hhi hvh rfl rfl rfl rfl rfl fun t s7 vs m F7 nt7 N7 => ?_) rfl)
    refine st_name (v := .int ((bis (goB true lk g c0 c1 q0 q1) (hi - lo) lo hi).1 : Nat)) hE F7 rfl ⟨t, rfl⟩ fun s8 F8 S8 _ _ => ?_
    refine wpAny_execs_nil (wpAny_execs_nil (wpAny_execs_nil ?_))
    have N8 := N7.up fun e o h9 _ g t => S8.keep e o h9 (by rw [t]; decide) (by rw [t]; decide) g
    have nt8 := S8.keep _ _ n9 (by show (2 : Nat) ≠ 3; decide) (by show (2 : Nat) ≠ 6; decide) nt7
    refine ret_found hE F8 n9 nX rfl rfl nt8 N8 fun u s9 I9 X9 r9 => ?_
    exact k u s9 I9.pop X9 (Rep.less (X := X.push env) (Y := X) (fun a h => h) (fun _ _ e _ => e) _ _ r9)
  | false =>
    refine wpAny_execs_cons (wpAny_Assign_Name (bisect_wp (d := d + 1) (by omega) lv hE F6 hX nb ntS nt6 rfl rfl bisR_wp rfl rfl (gl_br w) hK6 a1 hN6 R6 hn80 hhi hvh rfl rfl rfl rfl rfl fun t s7 vs m F7 nt7 N7 => ?_) rfl)
    refine st_name (v := .int ((bis (goB false lk g c0 c1 q0 q1) (hi - lo) lo hi).1 : Nat)) hE F7 rfl ⟨t, rfl⟩ fun s8 F8 S8 _ _ => ?_
    refine wpAny_execs_nil (wpAny_execs_nil (wpAny_execs_nil ?_))
    have N8 := N7.up fun e o h9 _ g t => S8.keep e o h9 (by rw [t]; decide) (by rw [t]; decide) g
    have nt8 := S8.keep _ _ n9 (by show (2 : Nat) ≠ 3; decide) (by show (2 : Nat) ≠ 6; decide) nt7
    refine ret_found hE F8 n9 nX rfl rfl nt8 N8 fun u s9 I9 X9 r9 => ?_
    exact k u s9 I9.pop X9 (Rep.less (X := X.push env) (Y := X) (fun a h => h) (fun _ _ e _ => e) _ _ r9)
end Vl
end
section
open PySem PySem.W PySem.W.X PyProof.Rows
set_option Elab.async false
set_option maxRecDepth 100000
set_option maxHeartbeats 2000000
set_option linter.unusedVariables false
namespace Vl
open Mine
variable {w : World} {X : Av} {φ : Around → Prop} {K : List (Str × NameKind)} {ρ : List (Str × V)}
/-- an expression gives a relation -/
def EvR (w : World) (φ : Around → Prop) (X : Av) (K : List (Str × NameKind)) (ρ : List (Str × V)) (e : Expr) (f : Int → Int → Int → Int → Int) : Prop :=
  ∀ (env : Env) (A : Around) (s : Shared) (Q : Value → Shared → Prop) (E : Value → Shared → Prop), φ A → AOk A → EnvIs K env → Inv w X s → Has X env s.heap ρ →
    (∀ rel s', Inv w X s' → Ext s s' → RelIs w s'.heap rel f → Q (.ref rel) s') → wpAny (model prg w) A (eval e env) Q E s
theorem evr_ring {x : Str} {pos : Pos} (hk : K.lookup x = some .globalImplicit) (hd : (x == ("__debug__" : Str)) = false) (g : Glb w x (.ref 46)) : EvR w φ X K ρ (.Name x pos) (fun p0 _ q0 _ => ringV p0 q0) := by
  intro env A s Q E hP hA hE I H k
  exact glob_wp hE I hk hd g (k _ s I (Ext.refl s) .ring)
theorem evr_rules (hT : X.tabs) {d : Nat} (hd : d < 490) (hφ : ∀ A, φ A → Lv d A) {x : Str} {np pos : Pos} {e : Expr} {fl : Int} {o : Obj} (hk : K.lookup x = some .globalImplicit) (hdb : (x == ("__debug__" : Str)) = false) (g : Glb w x (.ref 53)) (ho : (kt w.params).get 53 = some o) (hf : isFn o = true)
    (he : ∀ env, starEach [e] env = [(false, eval e env)]) (h : Ev w φ X K ρ e (.int fl)) : EvR w φ X K ρ (.Call (.Name x np) [e] [] pos) (rulesV fl) := by
  intro env A s Q E hP hA hE I H k
  refine callF_wp (vs := [.int fl]) hk hdb g ho hf (fun env => by rw [he]; rfl) (evl_cons h evl_nil (fun env => by rw [he]; rfl)) ⟨hP, hA, hE⟩ I H fun us s1 I1 X1 r1 => ?_
  obtain ⟨u, rfl, t, rfl⟩ := one_arg r1
  exact rules_wp hd hT (hφ A hP) I1 fl t fun f s' I' X' R' => k f s' I' (X1.trans X') R'
/-- a call of _law_search, its arguments at hand -/
theorem ev_call7 {x : Str} {np pos : Pos} {o : Obj} {e0 e1 e2 e3 e4 e5 e6 : Expr} (hk : K.lookup x = some .globalImplicit) (hdb : (x == ("__debug__" : Str)) = false) (gl : Glb w x (.ref 74)) (ho : (kt w.params).get 74 = some o) (hf : isFn o = true)
    (hs0 : ∀ env, starEach (e0 :: [e1, e2, e3, e4, e5, e6]) env = (false, eval e0 env) :: starEach [e1, e2, e3, e4, e5, e6] env) (hs1 : ∀ env, starEach (e1 :: [e2, e3, e4, e5, e6]) env = (false, eval e1 env) :: starEach [e2, e3, e4, e5, e6] env) (hs2 : ∀ env, starEach (e2 :: [e3, e4, e5, e6]) env = (false, eval e2 env) :: starEach [e3, e4, e5, e6] env) (hs3 : ∀ env, starEach (e3 :: [e4, e5, e6]) env = (false, eval e3 env) :: starEach [e4, e5, e6] env) (hs4 : ∀ env, starEach (e4 :: [e5, e6]) env = (false, eval e4 env) :: starEach [e5, e6] env) (hs5 : ∀ env, starEach (e5 :: [e6]) env = (false, eval e5 env) :: starEach [e6] env) (hs6 : ∀ env, starEach (e6 :: []) env = (false, eval e6 env) :: starEach [] env)
    {g : Int → Int → Int → Int → Int} {v0 v1 v2 v4 v5 v6 v : V} (h0 : Ev w φ X K ρ e0 v0) (h1 : Ev w φ X K ρ e1 v1) (h2 : Ev w φ X K ρ e2 v2) (h3 : EvR w φ X K ρ e3 g) (h4 : Ev w φ X K ρ e4 v4) (h5 : Ev w φ X K ρ e5 v5) (h6 : Ev w φ X K ρ e6 v6)
    (hc : ∀ (A : Around) (s : Shared) (rel : Addr) (us : List Value) (Q : Value → Shared → Prop) (E : Value → Shared → Prop), φ A → AOk A → Inv w X s → RelIs w s.heap rel g → RepL X s.heap [v0, v1, v2, .val (.ref rel), v4, v5, v6] us → (∀ u s', Inv w X s' → Ext s s' → Rep X s'.heap v u → Q u s') → wpAny (model prg w) A (call (.ref 74) us) Q E s) :
    Ev w φ X K ρ (.Call (.Name x np) [e0, e1, e2, e3, e4, e5, e6] [] pos) v := by
  intro env A s Q E hP hA hE I H k
  obtain ⟨fd, hfd⟩ : ∃ fd, o.data = .func fd := by
    unfold isFn at hf
    cases q : o.data with
    | func fd => exact ⟨fd, rfl⟩
    | _ => rw [q] at hf; simp at hf
  refine wpAny_Call_ofName (glob_wp hE I hk hdb gl ?_)
  refine Calls.callWith_function (o := o) (fd := fd) ?_
  rw [plain_back hs0]
  refine Calls.evalArgs_plain (x := eval e0 env) ?_
  rw [← plain_back hs0]
  refine spliced_more (h0 env A s _ E hP hA hE I H fun u0 s0 I0 X0 r0 => ?_) (hs0 env)
  refine spliced_more (h1 env A s0 _ E hP hA hE I0 (H.up X0) fun u1 s1 I1 X1 r1 => ?_) (hs1 env)
  refine spliced_more (h2 env A s1 _ E hP hA hE I1 (H.up (X0.trans X1)) fun u2 s2 I2 X2 r2 => ?_) (hs2 env)
  refine spliced_more (h3 env A s2 _ E hP hA hE I2 (H.up ((X0.trans X1).trans X2)) fun rel s3 I3 X3 R => ?_) (hs3 env)
  refine spliced_more (h4 env A s3 _ E hP hA hE I3 (H.up (((X0.trans X1).trans X2).trans X3)) fun u4 s4 I4 X4 r4 => ?_) (hs4 env)
  refine spliced_more (h5 env A s4 _ E hP hA hE I4 (H.up ((((X0.trans X1).trans X2).trans X3).trans X4)) fun u5 s5 I5 X5 r5 => ?_) (hs5 env)
  refine spliced_more (h6 env A s5 _ E hP hA hE I5 (H.up (((((X0.trans X1).trans X2).trans X3).trans X4).trans X5)) fun u6 s6 I6 X6 r6 => spliced_none ?_) (hs6 env)
  refine ⟨⟨I6.kt _ _ ho, hfd⟩, ?_⟩
  have X36 := ((X3.trans X4).trans X5).trans X6
  have X26 := X2.trans X36
  have X16 := X1.trans X26
  exact hc A s6 rel _ Q E hP hA I6 (((R.ext X4).ext X5).ext X6)
    ⟨u0, _, rfl, Rep.up X16.lists _ _ r0, u1, _, rfl, Rep.up X26.lists _ _ r1, u2, _, rfl, Rep.up X36.lists _ _ r2, .ref rel, _, rfl, rfl, u4, _, rfl, Rep.up (X5.trans X6).lists _ _ r4, u5, _, rfl, Rep.up X6.lists _ _ r5, u6, [], rfl, r6, rfl⟩
    fun u s' I' X' r' => k u s' I' ((X0.trans X16).trans X') r'
theorem ev_search (first : Bool) (hT : X.tabs) {d : Nat} (hd : d < 470) (hφ : ∀ A, φ A → Lv d A) {x : Str} {np pos : Pos} {o : Obj} {e0 e1 e2 e3 e4 e5 e6 : Expr} (hk : K.lookup x = some .globalImplicit) (hdb : (x == ("__debug__" : Str)) = false) (gl : Glb w x (.ref 74)) (ho : (kt w.params).get 74 = some o) (hf : isFn o = true)
    (hs0 : ∀ env, starEach (e0 :: [e1, e2, e3, e4, e5, e6]) env = (false, eval e0 env) :: starEach [e1, e2, e3, e4, e5, e6] env) (hs1 : ∀ env, starEach (e1 :: [e2, e3, e4, e5, e6]) env = (false, eval e1 env) :: starEach [e2, e3, e4, e5, e6] env) (hs2 : ∀ env, starEach (e2 :: [e3, e4, e5, e6]) env = (false, eval e2 env) :: starEach [e3, e4, e5, e6] env) (hs3 : ∀ env, starEach (e3 :: [e4, e5, e6]) env = (false, eval e3 env) :: starEach [e4, e5, e6] env) (hs4 : ∀ env, starEach (e4 :: [e5, e6]) env = (false, eval e4 env) :: starEach [e5, e6] env) (hs5 : ∀ env, starEach (e5 :: [e6]) env = (false, eval e5 env) :: starEach [e6] env) (hs6 : ∀ env, starEach (e6 :: []) env = (false, eval e6 env) :: starEach [] env)
    {g : Int → Int → Int → Int → Int} {c0 c1 : Nat → Int} {n : Nat} {q0 q1 q2 lk : Int} {lo hi : Nat} {vh : V} (hvh : vh = .int (hi : Int) ∨ (vh = .none ∧ hi = n))
    (h0 : Ev w φ X K ρ e0 (.int (if first then 0 else 1))) (h1 : Ev w φ X K ρ e1 (.list (rowV c0 c1 n))) (h2 : Ev w φ X K ρ e2 (.list [.int q0, .int q1, .int q2])) (h3 : EvR w φ X K ρ e3 g) (h4 : Ev w φ X K ρ e4 (.int lk)) (h5 : Ev w φ X K ρ e5 (.int (lo : Int))) (h6 : Ev w φ X K ρ e6 vh) (hn80 : n ≤ 80) (hhi : hi ≤ n) :
    Ev w φ X K ρ (.Call (.Name x np) [e0, e1, e2, e3, e4, e5, e6] [] pos) (resB first lk g c0 c1 q0 q1 q2 lo hi) :=
  ev_call7 hk hdb gl ho hf hs0 hs1 hs2 hs3 hs4 hs5 hs6 h0 h1 h2 h3 h4 h5 h6 fun A s rel us Q E hP hA I R r k => search_wp hd first hT (hφ A hP) I R (by omega) hhi hvh r k
theorem resB_L {lk : Int} {g : Int → Int → Int → Int → Int} {c0 c1 : Nat → Int} {q0 q1 q2 : Int} {lo hi : Nat} : resB true lk g c0 c1 q0 q1 q2 lo hi = .list [.int ((bis (fun k => decide (likeOf lk (g (c0 k) (c1 k) q0 q1) < 0)) (hi - lo) lo hi).1 : Int), .list (((bis (fun k => decide (likeOf lk (g (c0 k) (c1 k) q0 q1) < 0)) (hi - lo) lo hi).2.map fun (k : Nat) => ((k : Int), q2)).map pairV)] := rfl
theorem resB_R {lk : Int} {g : Int → Int → Int → Int → Int} {c0 c1 : Nat → Int} {q0 q1 q2 : Int} {lo hi : Nat} : resB false lk g c0 c1 q0 q1 q2 lo hi = .list [.int ((bis (fun k => !decide (likeOf lk (g q0 q1 (c0 k) (c1 k)) < 0)) (hi - lo) lo hi).1 : Int), .list (((bis (fun k => !decide (likeOf lk (g q0 q1 (c0 k) (c1 k)) < 0)) (hi - lo) lo hi).2.map fun (k : Nat) => (q2, (k : Int))).map pairV)] := rfl
end Vl
end
section
namespace Mine
theorem bis_step_yes {g : Nat → Bool} {n lo hi : Nat} (h : lo < hi) (q : g ((lo + hi) / 2) = true) : bis g (n + 1) lo hi = ((bis g n ((lo + hi) / 2 + 1) hi).1, (lo + hi) / 2 :: (bis g n ((lo + hi) / 2 + 1) hi).2) := by
  simp [bis, h, q]
theorem bis_step_no {g : Nat → Bool} {n lo hi : Nat} (h : lo < hi) (q : g ((lo + hi) / 2) = false) : bis g (n + 1) lo hi = ((bis g n lo ((lo + hi) / 2)).1, (lo + hi) / 2 :: (bis g n lo ((lo + hi) / 2)).2) := by
  simp [bis, h, q]
theorem bis_stop {g : Nat → Bool} {n lo hi : Nat} (h : ¬ lo < hi) : bis g n lo hi = (lo, []) := by
  cases n <;> simp [bis, h]
/-- what the search tells -/
structure BisOk (g : Nat → Bool) (lo hi : Nat) (r : Nat × List Nat) : Prop where
  low : lo ≤ r.1
  high : r.1 ≤ max lo hi
  mem : ∀ k ∈ r.2, lo ≤ k ∧ k < hi
  nodup : r.2.Nodup
  yes : ∀ k ∈ r.2, g k = true → k < r.1
  no : ∀ k ∈ r.2, g k = false → r.1 ≤ k
  left : r.1 = lo ∨ ∃ k ∈ r.2, g k = true ∧ k + 1 = r.1
  right : r.1 = max lo hi ∨ (r.1 ∈ r.2 ∧ g r.1 = false)
  up : lo < hi → 2 ^ r.2.length ≤ 2 * (hi - lo)
  nil : ¬ lo < hi → r.2 = []
  down : hi - lo + 1 < 2 * 2 ^ r.2.length
theorem bis_ok (g : Nat → Bool) : ∀ (n lo hi : Nat), hi - lo ≤ n → BisOk g lo hi (bis g n lo hi) := by
  intro n
  induction n with
  | zero =>
    intro lo hi h
    rw [bis_stop (by omega)]
    exact ⟨Nat.le_refl _, by simp; omega, by simp, by simp, by simp, by simp, .inl rfl, .inl (by simp; omega), fun q => absurd q (by omega), fun _ => rfl, by simp; omega⟩
  | succ n ih =>
    intro lo hi h
    by_cases q : lo < hi
    · have hm1 : lo ≤ (lo + hi) / 2 := by omega
      have hm2 : (lo + hi) / 2 < hi := by omega
      cases c : g ((lo + hi) / 2) with
      | true =>
        rw [bis_step_yes q c]
        have I := ih ((lo + hi) / 2 + 1) hi (by omega)
        generalize bis g n ((lo + hi) / 2 + 1) hi = r at I
        generalize hme : (lo + hi) / 2 = m at *
        refine ⟨?_, ?_, ?_, ?_, ?_, ?_, ?_, ?_, ?_, ?_, ?_⟩
        · have := I.low; simp only; omega
        · have := I.high; simp only; omega
        · intro k hk
          rcases List.mem_cons.mp hk with rfl | hk
          · exact ⟨hm1, hm2⟩
          · have := I.mem k hk; omega
        · exact List.nodup_cons.mpr ⟨fun hk => by have := I.mem _ hk; omega, I.nodup⟩
        · intro k hk gk
          rcases List.mem_cons.mp hk with rfl | hk
          · have := I.low; simp only; omega
          · exact I.yes k hk gk
        · intro k hk gk
          rcases List.mem_cons.mp hk with rfl | hk
          · rw [c] at gk; cases gk
          · exact I.no k hk gk
        · right
          rcases I.left with e | ⟨k, hk, gk, e⟩
          · exact ⟨m, .head _, c, e.symm⟩
          · exact ⟨k, .tail _ hk, gk, e⟩
        · rcases I.right with e | ⟨hk, gk⟩
          · left; simp only; omega
          · exact .inr ⟨.tail _ hk, gk⟩
        · intro _
          by_cases z : m + 1 < hi
          · have := I.up z
            simp only [List.length_cons, Nat.pow_succ]; omega
          · rw [I.nil z]; simp only [List.length_cons, List.length_nil]; omega
        · exact fun z => absurd q z
        · have := I.down
          simp only [List.length_cons, Nat.pow_succ]; omega
      | false =>
        rw [bis_step_no q c]
        have I := ih lo ((lo + hi) / 2) (by omega)
        generalize bis g n lo ((lo + hi) / 2) = r at I
        generalize hme : (lo + hi) / 2 = m at *
        refine ⟨?_, ?_, ?_, ?_, ?_, ?_, ?_, ?_, ?_, ?_, ?_⟩
        · exact I.low
        · have := I.high; simp only; omega
        · intro k hk
          rcases List.mem_cons.mp hk with rfl | hk
          · exact ⟨hm1, hm2⟩
          · have := I.mem k hk; omega
        · exact List.nodup_cons.mpr ⟨fun hk => by have := I.mem _ hk; omega, I.nodup⟩
        · intro k hk gk
          rcases List.mem_cons.mp hk with rfl | hk
          · rw [c] at gk; cases gk
          · exact I.yes k hk gk
        · intro k hk gk
          rcases List.mem_cons.mp hk with rfl | hk
          · have := I.high; simp only; omega
          · exact I.no k hk gk
        · rcases I.left with e | ⟨k, hk, gk, e⟩
          · exact .inl e
          · exact .inr ⟨k, .tail _ hk, gk, e⟩
        · right
          rcases I.right with e | ⟨hk, gk⟩
          · have : r.1 = m := by omega
            simp only [this]
            exact ⟨.head _, c⟩
          · exact ⟨.tail _ hk, gk⟩
        · intro _
          by_cases z : lo < m
          · have := I.up z
            simp only [List.length_cons, Nat.pow_succ]; omega
          · rw [I.nil z]; simp only [List.length_cons, List.length_nil]; omega
        · exact fun z => absurd q z
        · have := I.down
          simp only [List.length_cons, Nat.pow_succ]; omega
    · rw [bis_stop q]
      exact ⟨Nat.le_refl _, by simp; omega, by simp, by simp, by simp, by simp, .inl rfl, .inl (by simp; omega), fun z => absurd z q, fun _ => rfl, by simp; omega⟩
/-- over a row in which what is ahead stands first: the place is the count, kept within the bounds -/
theorem bis_count (g : Nat → Bool) (c : Nat) (n lo hi : Nat) (hn : hi - lo ≤ n) (hl : lo ≤ hi) (hg : ∀ k, lo ≤ k → k < hi → (g k = true ↔ k < c)) : (bis g n lo hi).1 = min (max c lo) hi := by
  have B := bis_ok g n lo hi hn
  have h1 := B.low
  have h2 := B.high
  rcases B.left with e | ⟨k, hk, gk, e⟩
  · rcases B.right with e' | ⟨hk', gk'⟩
    · omega
    · have m := B.mem _ hk'
      have := (not_congr (hg _ m.1 m.2)).mp (by rw [gk']; decide)
      omega
  · have m := B.mem _ hk
    have := (hg _ m.1 m.2).mp gk
    rcases B.right with e' | ⟨hk', gk'⟩
    · omega
    · have m' := B.mem _ hk'
      have := (not_congr (hg _ m'.1 m'.2)).mp (by rw [gk']; decide)
      omega
theorem bis_congr {g g' : Nat → Bool} (n lo hi : Nat) (h : ∀ k, lo ≤ k → k < hi → g k = g' k) : bis g n lo hi = bis g' n lo hi := by
  induction n generalizing lo hi with
  | zero => rfl
  | succ n ih =>
    by_cases q : lo < hi
    · have e := h ((lo + hi) / 2) (by omega) (by omega)
      cases c : g ((lo + hi) / 2) with
      | true => rw [bis_step_yes q c, bis_step_yes q (e ▸ c), ih _ _ fun k h1 h2 => h k (by omega) h2]
      | false => rw [bis_step_no q c, bis_step_no q (e ▸ c), ih _ _ fun k h1 h2 => h k h1 (by omega)]
    · rw [bis_stop q, bis_stop q]
end Mine
end
section
open PySem PySem.W PySem.W.X PyProof.Rows
set_option linter.unusedVariables false
namespace Mine
theorem modQ3 (x : Int) : Z.modQ x 3 = x % 3 := by
  rw [← Z.modQ_eq, Int.fmod_eq_emod_of_nonneg _ (by decide)]
theorem ringV_eq (p q : Int) : ringV p q = if (q - p) % 3 = 0 then 0 else if (q - p) % 3 = 1 then -4 else 4 := by
  unfold ringV
  rw [Int.fmod_eq_emod_of_nonneg _ (by decide)]
theorem ringL (lk kind c : Int) : decide (likeOf lk (ringV c kind) < 0) = decide (Z.modQ (kind - c) 3 ∈ (if lk < 0 then [0, 1] else [1] : List Int)) := by
  rw [modQ3, ringV_eq]
  unfold likeOf
  have : (kind - c) % 3 = 0 ∨ (kind - c) % 3 = 1 ∨ (kind - c) % 3 = 2 := by omega
  rcases this with e | e | e <;> rw [e] <;> by_cases h : lk < 0 <;> simp [h]
theorem ringR (lk kind c : Int) : (!decide (likeOf lk (ringV kind c) < 0)) = decide (Z.modQ (kind - c) 3 ∈ (if lk < 0 then [1] else [0, 1] : List Int)) := by
  rw [modQ3, ringV_eq]
  unfold likeOf
  have : (kind - c) % 3 = 0 ∧ (c - kind) % 3 = 0 ∨ (kind - c) % 3 = 1 ∧ (c - kind) % 3 = 2 ∨ (kind - c) % 3 = 2 ∧ (c - kind) % 3 = 1 := by omega
  rcases this with ⟨e, e'⟩ | ⟨e, e'⟩ | ⟨e, e'⟩ <;> rw [e, e'] <;> by_cases h : lk < 0 <;> simp [h]
end Mine
end
section
open PySem PySem.W PySem.W.X PyProof.Rows
set_option linter.unusedVariables false
namespace Mine
theorem ask_max {g : Nat → Bool} {lo hi : Nat} {r : Nat × List Nat} (B : BisOk g lo hi r) (h : lo < hi) (gI : Int → Bool) (hg : ∀ k : Nat, gI (k : Int) = g k) (M : Int)
    (m : M ∈ ((lo : Int) - 1) :: (r.2.map fun (k : Nat) => (k : Int)).filter gI) (u : ∀ a ∈ ((lo : Int) - 1) :: (r.2.map fun (k : Nat) => (k : Int)).filter gI, a ≤ M) : M + 1 = (r.1 : Int) := by
  have h1 := B.low
  have le : M + 1 ≤ (r.1 : Int) := by
    rcases List.mem_cons.mp m with e | m
    · omega
    · obtain ⟨m1, m2⟩ := List.mem_filter.mp m
      obtain ⟨k, hk, rfl⟩ := List.mem_map.mp m1
      have := B.yes k hk (by rw [← hg]; exact m2)
      omega
  rcases B.left with e | ⟨k, hk, gk, e⟩
  · have := u _ (.head _)
    omega
  · have := u (k : Int) (.tail _ (List.mem_filter.mpr ⟨List.mem_map.mpr ⟨k, hk, rfl⟩, by rw [hg]; exact gk⟩))
    omega
theorem ask_min {g : Nat → Bool} {lo hi : Nat} {r : Nat × List Nat} (B : BisOk g lo hi r) (h : lo < hi) (gI : Int → Bool) (hg : ∀ k : Nat, gI (k : Int) = g k) (M : Int)
    (m : M ∈ (hi : Int) :: (r.2.map fun (k : Nat) => (k : Int)).filter (fun k => !(gI k))) (u : ∀ a ∈ (hi : Int) :: (r.2.map fun (k : Nat) => (k : Int)).filter (fun k => !(gI k)), M ≤ a) : M = (r.1 : Int) := by
  have h1 := B.high
  have ge : (r.1 : Int) ≤ M := by
    rcases List.mem_cons.mp m with e | m
    · omega
    · obtain ⟨m1, m2⟩ := List.mem_filter.mp m
      obtain ⟨k, hk, rfl⟩ := List.mem_map.mp m1
      have := B.no k hk (by rw [← hg]; simpa using m2)
      omega
  rcases B.right with e | ⟨hk, gk⟩
  · have := u _ (.head _)
    omega
  · have := u (r.1 : Int) (.tail _ (List.mem_filter.mpr ⟨List.mem_map.mpr ⟨r.1, hk, rfl⟩, by rw [hg, gk]; rfl⟩))
    omega
theorem ask_pow {g : Nat → Bool} {lo hi : Nat} {r : Nat × List Nat} (B : BisOk g lo hi r) (h : lo < hi) :
    (((2 ^ r.2.length : Nat) : Nat) : Int) < 2 * ((hi : Int) - lo + 1) ∧ 2 * ((hi : Int) - lo + 1) < 4 * (((2 ^ r.2.length : Nat) : Nat) : Int) := by
  have h1 := B.up h
  have h2 := B.down
  generalize 2 ^ r.2.length = P at h1 h2 ⊢
  omega
theorem ask_nodup {g : Nat → Bool} {lo hi : Nat} {r : Nat × List Nat} (B : BisOk g lo hi r) : (r.2.map fun (k : Nat) => (k : Int)).Nodup :=
  List.Pairwise.map _ (fun a b hab e => hab (by omega)) B.nodup
theorem ask_some {g : Nat → Bool} {lo hi : Nat} {r : Nat × List Nat} (B : BisOk g lo hi r) (h : lo < hi) : 0 < r.2.length := by
  have h2 := B.down
  cases q : r.2 with
  | nil => rw [q] at h2; simp at h2; omega
  | cons => simp
end Mine
end
section
open PySem PySem.W PySem.W.X PyProof.Rows
set_option linter.unusedVariables false
namespace Mine
theorem rules_rank (fl p0 p1 q0 q1 : Int) (b1 : 0 ≤ p0 ∧ p0 ≤ 2) (b2 : 0 ≤ p1 ∧ p1 ≤ 2) (b3 : 0 ≤ q0 ∧ q0 ≤ 2) (b4 : 0 ≤ q1 ∧ q1 ≤ 2) (b5 : 0 ≤ fl ∧ fl ≤ 3) :
    (rulesV fl p0 p1 q0 q1 < 0 ↔ rankV fl p0 p1 < rankV fl q0 q1) ∧ (rulesV fl p0 p1 q0 q1 = 0 ↔ rankV fl p0 p1 = rankV fl q0 q1) := by
  have : fl = 0 ∨ fl = 1 ∨ fl = 2 ∨ fl = 3 := by omega
  have f0 : (0 : Int).fmod 2 = 0 := by decide
  have f1 : (1 : Int).fmod 2 = 1 := by decide
  have f2 : (2 : Int).fmod 2 = 0 := by decide
  have f3 : (3 : Int).fmod 2 = 1 := by decide
  rcases this with rfl | rfl | rfl | rfl <;> unfold rulesV rankV <;> simp only [f0, f1, f2, f3] <;> by_cases h : p0 = q0 <;> simp only [h, if_true, if_false] <;> simp <;> omega
theorem rulesL (lk fl p0 p1 q0 q1 : Int) (b1 : 0 ≤ p0 ∧ p0 ≤ 2) (b2 : 0 ≤ p1 ∧ p1 ≤ 2) (b3 : 0 ≤ q0 ∧ q0 ≤ 2) (b4 : 0 ≤ q1 ∧ q1 ≤ 2) (b5 : 0 ≤ fl ∧ fl ≤ 3) :
    decide (likeOf lk (rulesV fl p0 p1 q0 q1) < 0) = if lk < 0 then decide (rankV fl p0 p1 ≤ rankV fl q0 q1) else decide (rankV fl p0 p1 < rankV fl q0 q1) := by
  obtain ⟨h1, h2⟩ := rules_rank fl p0 p1 q0 q1 b1 b2 b3 b4 b5
  unfold likeOf
  by_cases z : rulesV fl p0 p1 q0 q1 = 0
  · rw [if_pos z]
    have := h2.mp z
    split <;> rename_i hl
    · simp only [hl, decide_true]; exact (decide_eq_true (by omega)).symm
    · simp only [hl, decide_false]; exact (decide_eq_false (by omega)).symm
  · rw [if_neg z]
    have n2 := fun e => z (h2.mpr e)
    split <;> apply decide_eq_decide.mpr <;> omega
theorem rulesR (lk fl p0 p1 q0 q1 : Int) (b1 : 0 ≤ p0 ∧ p0 ≤ 2) (b2 : 0 ≤ p1 ∧ p1 ≤ 2) (b3 : 0 ≤ q0 ∧ q0 ≤ 2) (b4 : 0 ≤ q1 ∧ q1 ≤ 2) (b5 : 0 ≤ fl ∧ fl ≤ 3) :
    (!decide (likeOf lk (rulesV fl q0 q1 p0 p1) < 0)) = if lk < 0 then decide (rankV fl p0 p1 < rankV fl q0 q1) else decide (rankV fl p0 p1 ≤ rankV fl q0 q1) := by
  rw [rulesL lk fl q0 q1 p0 p1 b3 b4 b1 b2 b5]
  split
  · by_cases h : rankV fl q0 q1 ≤ rankV fl p0 p1
    · rw [decide_eq_true h, decide_eq_false (by omega)]; rfl
    · rw [decide_eq_false h, decide_eq_true (by omega)]; rfl
  · by_cases h : rankV fl q0 q1 < rankV fl p0 p1
    · rw [decide_eq_true h, decide_eq_false (by omega)]; rfl
    · rw [decide_eq_false h, decide_eq_true (by omega)]; rfl
/-- in a rising row what a test bounded from above picks stands first -/
theorem sorted_pre (rs : List Int) (hs : rs.Pairwise (· ≤ ·)) (t : Int → Bool) (ht : ∀ a b, a ≤ b → t b = true → t a = true) :
    ∀ k (h : k < rs.length), (t rs[k] = true ↔ k < (rs.filter t).length) := by
  induction rs with
  | nil => intro k h; simp at h
  | cons x rs ih =>
    intro k h
    obtain ⟨hx, hs'⟩ := List.pairwise_cons.mp hs
    cases c : t x with
    | true =>
      cases k with
      | zero => simp [c]
      | succ k =>
        have := ih hs' k (by simpa using h)
        simp only [List.getElem_cons_succ, List.filter_cons, c, if_true, List.length_cons, this]
        omega
    | false =>
      have hall : ∀ y ∈ rs, t y = false := fun y hy => by
        cases q : t y with
        | false => rfl
        | true => rw [ht x y (hx y hy) q] at c; cases c
      have hf : (x :: rs).filter t = [] := by
        rw [List.filter_cons, c]
        simp only [Bool.false_eq_true, if_false]
        exact List.filter_eq_nil_iff.mpr fun y hy => by rw [hall y hy]; decide
      rw [hf]
      cases k with
      | zero => simp [c]
      | succ k =>
        simp only [List.getElem_cons_succ, List.length_nil, Nat.not_lt_zero, iff_false]
        rw [hall _ (List.getElem_mem _)]; decide
end Mine
end
section
open PySem PySem.W PySem.W.X PyProof.Rows
set_option Elab.async false
set_option maxRecDepth 100000
set_option maxHeartbeats 4000000
set_option linter.unusedVariables false
namespace Vl
open Mine
variable {w : World} {X : Av} {φ : Around → Prop}
theorem small_len {g : Nat → Bool} {lo hi : Nat} {r : Nat × List Nat} (B : BisOk g lo hi r) (h : lo < hi) (hb : hi ≤ 80) : r.2.length ≤ 7 := by
  have h1 := B.up h
  by_cases q : r.2.length ≤ 7
  · exact q
  · have : 2 ^ 8 ≤ 2 ^ r.2.length := Nat.pow_le_pow_right (by decide) (by omega)
    omega
theorem filter_all {α : Type} (l : List α) : l.filter (fun _ => true) = l := List.filter_eq_self.mpr fun _ _ => rfl
theorem filter_no {α : Type} (l : List α) : l.filter (fun _ => false) = [] := List.filter_eq_nil_iff.mpr fun _ _ => by simp
theorem map_rep {α β : Type} (a : β) : ∀ l : List α, l.map (fun _ => a) = List.replicate l.length a
  | [] => rfl
  | x :: l => by rw [List.map_cons, map_rep a l]; rfl
theorem row_get {c0 c1 : Nat → Int} {n k : Nat} (h : k < n) : (rowV c0 c1 n)[((k : Nat) : Int).toNat]? = some (.list [.int (c0 k), .int (c1 k), .int (k : Int)]) := by
  unfold rowV
  rw [Int.toNat_natCast]
  simp [h]
def nK : Str := ⟨#[107]⟩
theorem asks_ret {c0 c1 : Nat → Int} {n : Nat} (hn : n ≤ 80) {kind : Int} {steps : List Int} {g : Nat → Bool} (hg : ∀ k, k < n → g k = decide ((kind - c0 k).fmod 3 ∈ steps)) {lo hi : Nat} (hlt : lo < hi) (hhi : hi ≤ n) {r : Nat × List Nat} (B : BisOk g lo hi r) :
    Ret w φ X ks79 (ps79.zip [.list (rowV c0 c1 n), .int kind, .list (Is steps), .int lo, .int hi, .list [.int r.1, .list ((r.2.map fun (k : Nat) => ((k : Int), (-1 : Int))).map pairV)]]) bd79 (.bool true) := by
  have hlen := small_len B hlt (by omega)
  have hpos := ask_some B hlt
  delta bd79
  refine ret_cons (thru_pair (ev_name rfl rfl) rfl rfl rfl (fun _ => rfl) (fun _ => rfl)) ?_
  -- asked
  refine ret_cons (thru_compO (xs := r.2) (fun (k : Nat) => pairV ((k : Int), -1)) (fun _ => true) (fun (k : Nat) => .int (k : Int)) (fun (k : Nat) => [(nQ, .int (-1)), (nP, .int (k : Int))]) (out := Is (r.2.map fun (k : Nat) => (k : Int))) (by simp) (by rw [filter_all]; simp [Is, Function.comp_def])
    rfl rfl rfl (src_list (ev_name rfl rfl) rfl) rfl rfl (fun _ _ => rfl) (fun k _ D => bind_pair rfl rfl rfl) (fun k _ D => trf_nil) (fun k _ _ D => ev_name rfl rfl) (by omega)) ?_
  -- if type(place) is not int or [q for p, q in notes] != [-1] * len(notes)
  refine ret_skip (tr_bool (tra_or (tr_cmp (ev_callT rfl rfl (gl_type w) (fun _ => rfl) (fun _ _ => rfl) (evl_cons (ev_name rfl rfl) evl_nil (fun _ => rfl)) does_typeInt) (ev_typ rfl rfl (gl_int w)) cmp_isNotTyp rfl)
    (fun _ => tra_or (tr_cmp
      (ev_compO (xs := r.2) (fun (k : Nat) => pairV ((k : Int), -1)) (fun _ => true) (fun (k : Nat) => .int (-1)) (fun (k : Nat) => [(nQ, .int (-1)), (nP, .int (k : Int))]) (out := List.replicate r.2.length (.int (-1))) (by simp) (by rw [filter_all]; exact map_rep _ _)
        (src_list (ev_name rfl rfl) rfl) rfl rfl (fun _ _ => rfl) (fun k _ D => bind_pair rfl rfl rfl) (fun k _ D => trf_nil) (fun k _ _ D => ev_name rfl rfl) (by omega))
      (ev_eq (ev_bin (ev_list (evl_cons (ev_neg ev_int) evl_nil (fun _ => rfl)) (by simp)) (ev_callB rfl rfl (gl_len w) (fun _ => rfl) (fun _ _ => rfl) (evl_cons (ev_name rfl rfl) evl_nil (fun _ => rfl)) (does_len (by simp; omega))) (op_rep (by simp; omega))) (by simp))
      (cmp_notSame (n := 3) (fineL_of fun x hx => by rw [List.eq_of_mem_replicate hx]; exact True.intro) (by decide)) rfl) (fun _ => tra_or0)))) rfl ?_
  -- if lo >= hi
  refine ret_skip (tr_cmp (ev_name rfl rfl) (ev_name rfl rfl) cmp_ge rfl) (decide_eq_false (by omega)) ?_
  -- if [k for k in asked if not lo <= k < hi] != [] or len(set(asked)) != len(asked)
  have hnd := ask_nodup B
  have hll : (r.2.map fun (k : Nat) => (k : Int)).length = r.2.length := by simp
  refine ret_skip (tr_bool (tra_or (tr_cmp
      (ev_compO (xs := r.2) (fun (k : Nat) => .int (k : Int)) (fun _ => false) (fun (k : Nat) => .int (k : Int)) (fun (k : Nat) => [(nK, .int (k : Int))]) (out := []) (by simp [Is, Function.comp_def]) (by rw [filter_no]; rfl)
        (src_list (ev_name rfl rfl) rfl) rfl rfl (fun _ _ => rfl) (fun k _ D => bind_name rfl)
        (fun k hk D => trf_one (tr_eq (tr_not (tr_chain (ev_name rfl rfl) (ev_name rfl rfl) cmp_le (fun _ => ev_name rfl rfl) cmp_lt rfl)) (by have := B.mem k hk; simp; omega)))
        (fun k _ q D => nomatch q) (by omega))
      (ev_list evl_nil (by simp)) (cmp_notSame (n := 3) (a := .list []) True.intro (by decide)) rfl)
    (fun _ => tra_or (tr_cmp (ev_lenSet rfl rfl (gl_len w) rfl rfl (gl_set w) (fun _ => rfl) (ev_name rfl rfl) hnd (by omega))
      (ev_callB rfl rfl (gl_len w) (fun _ => rfl) (fun _ _ => rfl) (evl_cons (ev_name rfl rfl) evl_nil (fun _ => rfl)) (does_len (by simp [Is]; omega))) cmp_ne rfl) (fun _ => tra_or0)))) (by simp [Is]) ?_
  -- ahead
  refine ret_cons (thru_assign (v := .list (Is ((r.2.filter g).map fun (k : Nat) => (k : Int)))) (ev_compO (xs := r.2) (fun (k : Nat) => .int (k : Int)) g (fun (k : Nat) => .int (k : Int)) (fun (k : Nat) => [(nK, .int (k : Int))]) (by simp [Is, Function.comp_def]) (by simp [Is, Function.comp_def])
      (src_list (ev_name rfl rfl) rfl) rfl rfl (fun _ _ => rfl) (fun k _ D => bind_name rfl)
      (fun k hk D => trf_one (tr_eq (tr_cmp (ev_bin (ev_bin (ev_name rfl rfl) (ev_item (ev_item (ev_name rfl rfl) (ev_name rfl rfl) (by omega) (by have := B.mem k hk; omega) (v := .list [.int (c0 k), .int (c1 k), .int (k : Int)]) (row_get (by have := B.mem k hk; omega)) (fun _ _ => rfl)) ev_int (by decide) (by decide) rfl (fun _ _ => rfl)) op_sub) ev_int (op_mod (by decide))) (ev_name rfl rfl) cmp_in rfl)
        (by have := B.mem k hk; rw [hg k (by omega)])))
      (fun k _ q D => ev_name rfl rfl) (by omega)) rfl (swaps_cell rfl)) ?_
  -- behind
  refine ret_cons (thru_compO (xs := r.2) (fun (k : Nat) => .int (k : Int)) (fun k => !(g k)) (fun (k : Nat) => .int (k : Int)) (fun (k : Nat) => [(nK, .int (k : Int))]) (out := Is ((r.2.filter fun k => !(g k)).map fun (k : Nat) => (k : Int))) (by simp [Is, Function.comp_def]) (by simp [Is, Function.comp_def])
    rfl rfl rfl (src_list (ev_name rfl rfl) rfl) rfl rfl (fun _ _ => rfl) (fun k _ D => bind_name rfl)
    (fun k hk D => trf_one (tr_eq (tr_cmp (ev_name rfl rfl) (ev_name rfl rfl) cmp_notIn rfl) (by
      have : (k : Int) ∈ ((r.2.filter g).map fun (k : Nat) => (k : Int)) ↔ g k = true := by
        simp only [List.mem_map, List.mem_filter]
        constructor
        · rintro ⟨j, ⟨_, hj⟩, e⟩
          have : j = k := by omega
          exact this ▸ hj
        · exact fun h => ⟨k, ⟨hk, h⟩, rfl⟩
      cases q : g k <;> simp [this, q])))
    (fun k _ q D => ev_name rfl rfl) (by omega)) ?_
  -- the tree of halves
  have hpw := ask_pow B hlt
  refine ret_skip (tr_not (tr_chain
      (ev_bin ev_int (ev_callB rfl rfl (gl_len w) (fun _ => rfl) (fun _ _ => rfl) (evl_cons (ev_name rfl rfl) evl_nil (fun _ => rfl)) (does_len (by simp [Is]; omega))) (op_pow (by simp [Is]; omega) (by simp [Is]; omega)))
      (ev_bin ev_int (ev_bin (ev_bin (ev_name rfl rfl) (ev_name rfl rfl) op_sub) ev_int op_add) (op_mul (IntMulOk.of_left (by decide +kernel)))) cmp_lt
      (fun _ => ev_bin ev_int (ev_bin ev_int (ev_callB rfl rfl (gl_len w) (fun _ => rfl) (fun _ _ => rfl) (evl_cons (ev_name rfl rfl) evl_nil (fun _ => rfl)) (does_len (by simp [Is]; omega))) (op_pow (by simp [Is]; omega) (by simp [Is]; omega))) (op_mul (IntMulOk.of_left (by decide +kernel)))) cmp_lt rfl))
    (by
      have e : (Is (r.2.map fun (k : Nat) => (k : Int))).length = r.2.length := by simp [Is]
      rw [e, decide_eq_true hpw.1, decide_eq_true hpw.2]; rfl) ?_
  -- the place
  have ef : ∀ h : Nat → Bool, (r.2.map fun (k : Nat) => (k : Int)).filter (fun z => h z.toNat) = (r.2.filter h).map fun (k : Nat) => (k : Int) := fun h => by
    rw [List.filter_map]; rfl
  obtain ⟨M, hM, uM⟩ := max_of (((lo : Int) - 1) :: (r.2.filter g).map fun (k : Nat) => (k : Int)) (by simp)
  obtain ⟨m, hm, um⟩ := min_of ((hi : Int) :: (r.2.filter fun k => !(g k)).map fun (k : Nat) => (k : Int)) (by simp)
  have eM := ask_max B hlt (fun z => g z.toNat) (fun k => by rw [Int.toNat_natCast]) M (by rw [ef g]; exact hM) (by rw [ef g]; exact uM)
  have em := ask_min B hlt (fun z => g z.toNat) (fun k => by rw [Int.toNat_natCast]) m (by rw [ef fun k => !(g k)]; exact hm) (by rw [ef fun k => !(g k)]; exact um)
  refine ret_ret (ev_eq (ev_and (ev_cmp (ev_name rfl rfl) (ev_bin (ev_callB rfl rfl (gl_max w) (fun _ => rfl) (fun _ _ => rfl) (evl_cons (ev_eq (ev_bin (ev_list (evl_cons (ev_bin (ev_name rfl rfl) ev_int op_sub) evl_nil (fun _ => rfl)) (by simp)) (ev_name rfl rfl) (op_cat (by simp) (by
        have := List.length_filter_le g r.2; simp [Is]; omega))) (b := .list (Is (((lo : Int) - 1) :: (r.2.filter g).map fun (k : Nat) => (k : Int)))) rfl) evl_nil (fun _ => rfl)) (does_max (by simp) M hM uM)) ev_int op_add) cmp_eq rfl)
    (fun _ => ev_cmp (ev_name rfl rfl) (ev_callB rfl rfl (gl_min w) (fun _ => rfl) (fun _ _ => rfl) (evl_cons (ev_eq (ev_bin (ev_list (evl_cons (ev_name rfl rfl) evl_nil (fun _ => rfl)) (by simp)) (ev_name rfl rfl) (op_cat (by simp) (by
        have := List.length_filter_le (fun k => !(g k)) r.2; simp [Is]; omega))) (b := .list (Is ((hi : Int) :: (r.2.filter fun k => !(g k)).map fun (k : Nat) => (k : Int)))) rfl) evl_nil (fun _ => rfl)) (does_min (by simp) m hm um)) cmp_eq rfl)) ?_)
  rw [eM, em]
  simp
theorem asks0_ret {row steps : V} {kind lo hi : Int} (hge : hi ≤ lo) :
    Ret w φ X ks79 (ps79.zip [row, .int kind, steps, .int lo, .int hi, .list [.int lo, .list []]]) bd79 (.bool true) := by
  delta bd79
  refine ret_cons (thru_pair (ev_name rfl rfl) rfl rfl rfl (fun _ => rfl) (fun _ => rfl)) ?_
  refine ret_cons (thru_compO (xs := ([] : List Nat)) (fun (k : Nat) => .none) (fun _ => true) (fun (k : Nat) => .none) (fun (k : Nat) => []) (out := []) rfl rfl
    rfl rfl rfl (src_list (ev_name rfl rfl) rfl) rfl rfl (fun _ _ => rfl) (fun k h D => nomatch h) (fun k h D => nomatch h) (fun k h _ D => nomatch h) (by simp)) ?_
  refine ret_skip (tr_bool (tra_or (tr_cmp (ev_callT rfl rfl (gl_type w) (fun _ => rfl) (fun _ _ => rfl) (evl_cons (ev_name rfl rfl) evl_nil (fun _ => rfl)) does_typeInt) (ev_typ rfl rfl (gl_int w)) cmp_isNotTyp rfl)
    (fun _ => tra_or (tr_cmp
      (ev_compO (xs := ([] : List Nat)) (fun (k : Nat) => .none) (fun _ => true) (fun (k : Nat) => .none) (fun (k : Nat) => []) (out := List.replicate 0 (.int (-1))) rfl rfl
        (src_list (ev_name rfl rfl) rfl) rfl rfl (fun _ _ => rfl) (fun k h D => nomatch h) (fun k h D => nomatch h) (fun k h _ D => nomatch h) (by simp))
      (ev_eq (ev_bin (ev_list (evl_cons (ev_neg ev_int) evl_nil (fun _ => rfl)) (by simp)) (ev_callB rfl rfl (gl_len w) (fun _ => rfl) (fun _ _ => rfl) (evl_cons (ev_name rfl rfl) evl_nil (fun _ => rfl)) (does_len (by simp))) (op_rep (by simp))) rfl)
      (cmp_notSame (n := 3) True.intro (by decide)) rfl) (fun _ => tra_or0)))) rfl ?_
  refine fun env A s₀ s Q E hP hA hE hC F k => ret_if (c := decide (lo ≥ hi)) (tr_cmp (ev_name rfl rfl) (ev_name rfl rfl) cmp_ge rfl) (fun _ => ?_) rfl (fun q => absurd (of_decide_eq_false q) (by omega)) env A s₀ s Q E hP hA hE hC F k
  exact ret_ret (ev_eq (ev_and (ev_cmp (ev_name rfl rfl) (ev_name rfl rfl) cmp_eq rfl) (fun _ => ev_cmp (ev_name rfl rfl) (ev_list evl_nil (by simp)) (cmp_same (n := 3) (a := .list []) True.intro (by decide)) rfl)) (by simp))
end Vl
end
section
open PySem PySem.W PySem.W.X PyProof.Rows
set_option Elab.async false
set_option maxRecDepth 100000
set_option maxHeartbeats 4000000
set_option linter.unusedVariables false
namespace Vl
open Mine
variable {w : World} {X : Av} {φ : Around → Prop}
/-- the test of the ring's searches -/
def gS (c0 : Nat → Int) (kind : Int) (st : List Int) (k : Nat) : Bool := decide ((kind - c0 k).fmod 3 ∈ st)
theorem gS_L (c0 : Nat → Int) (kind lk : Int) : (fun k => decide (likeOf lk (ringV (c0 k) kind) < 0)) = gS c0 kind (if lk < 0 then [0, 1] else [1]) := by
  funext k
  rw [ringL]; unfold gS; rw [Z.modQ_eq]
theorem gS_R (c0 : Nat → Int) (kind lk : Int) : (fun k => !decide (likeOf lk (ringV kind (c0 k)) < 0)) = gS c0 kind (if lk < 0 then [1] else [0, 1]) := by
  funext k
  rw [ringR]; unfold gS; rw [Z.modQ_eq]
/-- what a search of the ring gives, by its steps -/
def pairsL (l : List Nat) : List V := (l.map fun (k : Nat) => ((k : Int), (-1 : Int))).map pairV
def pairsR (l : List Nat) : List V := (l.map fun (k : Nat) => ((-1 : Int), (k : Int))).map pairV
def resL (c0 : Nat → Int) (kind : Int) (lo hi : Nat) (st : List Int) : V := .list [.int ((bis (gS c0 kind st) (hi - lo) lo hi).1 : Int), .list (pairsL (bis (gS c0 kind st) (hi - lo) lo hi).2)]
def resR (c0 : Nat → Int) (kind : Int) (lo hi : Nat) (st : List Int) : V := .list [.int ((bis (gS c0 kind st) (hi - lo) lo hi).1 : Int), .list (pairsR (bis (gS c0 kind st) (hi - lo) lo hi).2)]
theorem fine_pairs (l : List Nat) : fineL (pairsL l) 2 := fineL_of fun x hx => by
  obtain ⟨p, hp, rfl⟩ := List.mem_map.mp hx
  exact ⟨True.intro, True.intro, True.intro⟩
theorem fine_resL (c0 : Nat → Int) (kind : Int) (lo hi : Nat) (st : List Int) : (resL c0 kind lo hi st).fine 4 := ⟨True.intro, fine_pairs _, True.intro⟩
theorem does_asks {d : Nat} (hd : d < 600) {c0 c1 : Nat → Int} {n : Nat} (hn : n ≤ 80) {kind : Int} (st : List Int) {lo hi : Nat} (hhi : hi ≤ n) :
    Does w (Lv d) X (.ref 79) [.list (rowV c0 c1 n), .int kind, .list (Is st), .int lo, .int hi, resL c0 kind lo hi st] (.bool true) := by
  refine does_of hd (fn79 w) rfl ?_
  by_cases h : lo < hi
  · exact asks_ret (g := gS c0 kind st) hn (fun k _ => rfl) h hhi (r := bis (gS c0 kind st) (hi - lo) lo hi) (bis_ok _ _ _ _ (Nat.le_refl _))
  · have e : resL c0 kind lo hi st = .list [.int (lo : Int), .list []] := by
      unfold resL pairsL; rw [bis_stop h]; rfl
    rw [e]
    exact asks0_ret (by omega)
theorem parted_ret (hT : X.tabs) {d : Nat} (hd : d < 470) {c0 c1 : Nat → Int} {n : Nat} (hn : n ≤ 80) (b0 : ∀ k, k < n → 0 ≤ c0 k ∧ c0 k ≤ 2) (b1 : ∀ k, k < n → 0 ≤ c1 k ∧ c1 k ≤ 2) {kind size : Int} (hk : 0 ≤ kind ∧ kind ≤ 2) (hs : 0 < size) {lo hi : Nat} (hhi : hi ≤ n) :
    Ret w (Lv d) X ks84 (ps84.zip [.list (rowV c0 c1 n), .int kind, .int lo, .int hi, .int size]) bd84 (.bool true) := by
  delta bd84
  -- sought
  refine ret_cons (thru_assign (ev_list (evl_cons (ev_name rfl rfl) (evl_cons ev_int (evl_cons (ev_neg ev_int) evl_nil (fun _ => rfl)) (fun _ => rfl)) (fun _ => rfl)) (by simp)) rfl (fun _ _ => rfl)) ?_
  -- lefts
  refine ret_cons (thru_compO (xs := [0, size, -size]) V.int (fun _ => true) (fun lk => resL c0 kind lo hi (if lk < 0 then [0, 1] else [1])) (fun lk => [(⟨#[108, 105, 107, 101, 115]⟩, .int lk)]) (out := [resL c0 kind lo hi [1], resL c0 kind lo hi [1], resL c0 kind lo hi [0, 1]]) rfl
    (by simp [hs, Int.not_lt.mpr (Int.le_of_lt hs)])
    rfl rfl rfl (src_list (ev_list (evl_cons ev_int (evl_cons (ev_name rfl rfl) (evl_cons (ev_neg (ev_name rfl rfl)) evl_nil (fun _ => rfl)) (fun _ => rfl)) (fun _ => rfl)) (by simp)) rfl) rfl rfl (fun _ _ => rfl) (fun lk _ D => bind_name rfl) (fun lk _ D => trf_nil)
    (fun lk _ _ D => ev_eq (ev_search true (hT.add D) (by omega) (fun _ h => h) rfl rfl (gl_law_search w) rfl rfl (fun _ => rfl) (fun _ => rfl) (fun _ => rfl) (fun _ => rfl) (fun _ => rfl) (fun _ => rfl) (fun _ => rfl) (.inl rfl) ev_int (ev_name rfl rfl) (ev_name rfl rfl) (evr_ring rfl rfl (gl_law_ring w)) (ev_name rfl rfl) (ev_name rfl rfl) (ev_name rfl rfl) hn hhi)
      (by rw [resB_L]; unfold resL pairsL; rw [← gS_L])) (by simp)) ?_
  -- rights
  refine ret_cons (thru_compO (xs := [0, size, -size]) V.int (fun _ => true) (fun lk => resR c0 kind lo hi (if lk < 0 then [1] else [0, 1])) (fun lk => [(⟨#[108, 105, 107, 101, 115]⟩, .int lk)]) (out := [resR c0 kind lo hi [0, 1], resR c0 kind lo hi [0, 1], resR c0 kind lo hi [1]]) rfl
    (by simp [hs, Int.not_lt.mpr (Int.le_of_lt hs)])
    rfl rfl rfl (src_list (ev_list (evl_cons ev_int (evl_cons (ev_name rfl rfl) (evl_cons (ev_neg (ev_name rfl rfl)) evl_nil (fun _ => rfl)) (fun _ => rfl)) (fun _ => rfl)) (by simp)) rfl) rfl rfl (fun _ _ => rfl) (fun lk _ D => bind_name rfl) (fun lk _ D => trf_nil)
    (fun lk _ _ D => ev_eq (ev_search false (hT.add D) (by omega) (fun _ h => h) rfl rfl (gl_law_search w) rfl rfl (fun _ => rfl) (fun _ => rfl) (fun _ => rfl) (fun _ => rfl) (fun _ => rfl) (fun _ => rfl) (fun _ => rfl) (.inl rfl) ev_int (ev_name rfl rfl) (ev_name rfl rfl) (evr_ring rfl rfl (gl_law_ring w)) (ev_name rfl rfl) (ev_name rfl rfl) (ev_name rfl rfl) hn hhi)
      (by rw [resB_R]; unfold resR pairsR; rw [← gS_R])) (by simp)) ?_
  -- turned
  refine ret_cons (thru_compO (xs := [[0, 1], [0, 1], [1]]) (fun st => resR c0 kind lo hi st) (fun _ => true) (fun st => resL c0 kind lo hi st)
    (fun st => [(nNotes, .list (pairsR (bis (gS c0 kind st) (hi - lo) lo hi).2)), (nPlace, .int ((bis (gS c0 kind st) (hi - lo) lo hi).1 : Int))]) (out := [resL c0 kind lo hi [0, 1], resL c0 kind lo hi [0, 1], resL c0 kind lo hi [1]]) rfl rfl
    rfl rfl rfl (src_list (ev_name rfl rfl) rfl) rfl rfl (fun _ _ => rfl) (fun st _ D => bind_pair rfl rfl rfl) (fun st _ D => trf_nil)
    (fun st _ _ D => ev_list (evl_cons (ev_name rfl rfl) (evl_cons
      (ev_compO (xs := (bis (gS c0 kind st) (hi - lo) lo hi).2) (fun (k : Nat) => pairV (-1, (k : Int))) (fun _ => true) (fun (k : Nat) => pairV ((k : Int), -1)) (fun (k : Nat) => [(nQ, .int (k : Int)), (nP, .int (-1))]) (by simp [pairsR]) (by rw [filter_all]; simp [pairsL])
        (src_list (ev_name rfl rfl) rfl) rfl rfl (fun _ _ => rfl) (fun k _ D' => bind_pair rfl rfl rfl) (fun k _ D' => trf_nil)
        (fun k _ _ D' => ev_list (evl_cons (ev_name rfl rfl) (evl_cons (ev_name rfl rfl) evl_nil (fun _ => rfl)) (fun _ => rfl)) (by simp)) (by
          by_cases h : lo < hi
          · have := small_len (bis_ok (gS c0 kind st) (hi - lo) lo hi (Nat.le_refl _)) h (by omega); omega
          · rw [bis_stop h]; simp))
      evl_nil (fun _ => rfl)) (fun _ => rfl)) (by simp)) (by simp)) ?_
  -- the same
  have f2 : ∀ st st', (V.list [resL c0 kind lo hi st, resL c0 kind lo hi st']).fine 5 := fun st st' => ⟨fine_resL .., fine_resL .., True.intro⟩
  refine ret_skip (tr_cmp (ev_list (evl_cons (ev_item (ev_name rfl rfl) ev_int (by decide) (by decide) rfl (fun _ _ => rfl)) (evl_cons (ev_item (ev_name rfl rfl) ev_int (by decide) (by decide) rfl (fun _ _ => rfl)) evl_nil (fun _ => rfl)) (fun _ => rfl)) (by simp))
    (ev_list (evl_cons (ev_item (ev_name rfl rfl) ev_int (by decide) (by decide) rfl (fun _ _ => rfl)) (evl_cons (ev_item (ev_name rfl rfl) ev_int (by decide) (by decide) rfl (fun _ _ => rfl)) evl_nil (fun _ => rfl)) (fun _ => rfl)) (by simp)) (cmp_notSame (f2 [1] [1]) (by decide)) rfl) rfl ?_
  refine ret_skip (tr_cmp (ev_list (evl_cons (ev_item (ev_name rfl rfl) ev_int (by decide) (by decide) rfl (fun _ _ => rfl)) (evl_cons (ev_item (ev_name rfl rfl) ev_int (by decide) (by decide) rfl (fun _ _ => rfl)) evl_nil (fun _ => rfl)) (fun _ => rfl)) (by simp))
    (ev_list (evl_cons (ev_item (ev_name rfl rfl) ev_int (by decide) (by decide) rfl (fun _ _ => rfl)) (evl_cons (ev_item (ev_name rfl rfl) ev_int (by decide) (by decide) rfl (fun _ _ => rfl)) evl_nil (fun _ => rfl)) (fun _ => rfl)) (by simp)) (cmp_notSame (f2 [0, 1] [0, 1]) (by decide)) rfl) rfl ?_
  -- what is asked
  refine ret_skip (tr_not (tr_val (ev_callF rfl rfl (gl_law_asks w) rfl rfl (fun _ => rfl)
    (evl_cons (ev_name rfl rfl) (evl_cons (ev_name rfl rfl) (evl_cons (ev_list (evl_cons ev_int evl_nil (fun _ => rfl)) (by simp)) (evl_cons (ev_name rfl rfl) (evl_cons (ev_name rfl rfl) (evl_cons (ev_item (ev_name rfl rfl) ev_int (by decide) (by decide) rfl (fun _ _ => rfl)) evl_nil (fun _ => rfl)) (fun _ => rfl)) (fun _ => rfl)) (fun _ => rfl)) (fun _ => rfl)) (fun _ => rfl))
    (does_asks (by omega) hn [1] hhi)) (fun _ _ => rfl))) rfl ?_
  exact ret_ret (ev_callF rfl rfl (gl_law_asks w) rfl rfl (fun _ => rfl)
    (evl_cons (ev_name rfl rfl) (evl_cons (ev_name rfl rfl) (evl_cons (ev_list (evl_cons ev_int (evl_cons ev_int evl_nil (fun _ => rfl)) (fun _ => rfl)) (by simp)) (evl_cons (ev_name rfl rfl) (evl_cons (ev_name rfl rfl) (evl_cons (ev_item (ev_name rfl rfl) ev_int (by decide) (by decide) rfl (fun _ _ => rfl)) evl_nil (fun _ => rfl)) (fun _ => rfl)) (fun _ => rfl)) (fun _ => rfl)) (fun _ => rfl)) (fun _ => rfl))
    (does_asks (by omega) hn [0, 1] hhi))
theorem does_parted (hT : X.tabs) {d : Nat} (hd : d < 460) {c0 c1 : Nat → Int} {n : Nat} (hn : n ≤ 80) (b0 : ∀ k, k < n → 0 ≤ c0 k ∧ c0 k ≤ 2) (b1 : ∀ k, k < n → 0 ≤ c1 k ∧ c1 k ≤ 2) {kind size : Int} (hk : 0 ≤ kind ∧ kind ≤ 2) (hs : 0 < size) {lo hi : Nat} (hhi : hi ≤ n) :
    Does w (Lv d) X (.ref 84) [.list (rowV c0 c1 n), .int kind, .int lo, .int hi, .int size] (.bool true) :=
  does_of (by omega) (fn84 w) rfl (parted_ret hT (by omega) hn b0 b1 hk hs hhi)
end Vl
end
section
open PySem PySem.W PySem.W.X PyProof.Rows
set_option Elab.async false
set_option maxRecDepth 100000
set_option maxHeartbeats 4000000
set_option linter.unusedVariables false
namespace Vl
open Mine
variable {w : World} {X : Av} {φ : Around → Prop} {K : List (Str × NameKind)} {ρ : List (Str × V)}
theorem cmp_eqBool {a b : Bool} : Cmp2 w X .Eq (.bool a) (.bool b) (a == b) := by
  rintro A s _ _ Q E hA I rfl rfl k
  exact eq_bool (k _ I (Ext.refl s))
theorem does_rank {d : Nat} (hd : d < 600) (c0 c1 fl : Int) (x2 : V) : Does w (Lv d) X (.ref 60) [.list [.int c0, .int c1, x2], .int fl] (.int (rankV fl c0 c1)) :=
  does_of hd (fn60 w) rfl (rank_ret c0 c1 fl x2)
theorem less_cons {ρ ρ' : List (Str × V)} {x : Str} {v : V} (hn : ρ.lookup x = none) (h : ∀ y u, ρ.lookup y = some u → ρ'.lookup y = some u) : ∀ y u, ρ.lookup y = some u → ((x, v) :: ρ').lookup y = some u := by
  intro y u e
  rw [List.lookup_cons]
  cases q : y == x with
  | true =>
    have : y = x := by simpa using q
    subst this
    rw [hn] at e; cases e
  | false => exact h y u e
def nOne : Str := ⟨#[111, 110, 101]⟩
def nItem : Str := ⟨#[105, 116, 101, 109]⟩
def rks (fl : Int) (c0 c1 : Nat → Int) (n : Nat) : List Int := (List.range n).map fun k => rankV fl (c0 k) (c1 k)
theorem pre_count {fl : Int} {c0 c1 : Nat → Int} {n : Nat} (hs : (rks fl c0 c1 n).Pairwise (· ≤ ·)) (t : Int → Bool) (ht : ∀ a b, a ≤ b → t b = true → t a = true) {g : Nat → Bool} (hg : ∀ k, k < n → g k = t (rankV fl (c0 k) (c1 k))) {lo top : Nat} (h : lo ≤ top) (ht' : top ≤ n) :
    (bis g (top - lo) lo top).1 = min (max ((rks fl c0 c1 n).filter t).length lo) top := by
  refine bis_count g _ _ lo top (Nat.le_refl _) h fun k h1 h2 => ?_
  have hl : (rks fl c0 c1 n).length = n := by simp [rks]
  have := sorted_pre _ hs t ht k (by omega)
  rw [hg k (by omega), ← this]
  have e : (rks fl c0 c1 n)[k]'(by omega) = rankV fl (c0 k) (c1 k) := by simp [rks]
  rw [e]

/-- one turn, side 0 -/
theorem counted_turnL {d : Nat} (hd : d < 470) {c0 c1 : Nat → Int} {n : Nat} (hn : n ≤ 80) (b0 : ∀ k, k < n → 0 ≤ c0 k ∧ c0 k ≤ 2) (b1 : ∀ k, k < n → 0 ≤ c1 k ∧ c1 k ≤ 2) {fl q0 q1 : Int} (bfl : 0 ≤ fl ∧ fl ≤ 3) (bq0 : 0 ≤ q0 ∧ q0 ≤ 2) (bq1 : 0 ≤ q1 ∧ q1 ≤ 2)
    (hs : (rks fl c0 c1 n).Pairwise (· ≤ ·)) {lo hi : Nat} (hhi : hi ≤ n) (lk : Int) :
    (lo < hi → ((bis (fun k => decide (likeOf lk (rulesV fl (c0 k) (c1 k) q0 q1) < 0)) (hi - lo) lo hi).1 : Int) = min (max (if (((0 : Int) == 0) == decide (lk ≥ 0)) = true then (((rks fl c0 c1 n).filter fun z => decide (z < rankV fl q0 q1)).length : Int) else (((rks fl c0 c1 n).filter fun z => decide (z ≤ rankV fl q0 q1)).length : Int)) (lo : Int)) (hi : Int)) := by
  intro h
  have p1 := pre_count hs (fun z => decide (z < rankV fl q0 q1)) (fun a b hab hb => by simp at hb ⊢; omega) (g := fun k => decide (rankV fl (c0 k) (c1 k) < rankV fl q0 q1)) (fun k _ => rfl) (Nat.le_of_lt h) (hhi)
  have p2 := pre_count hs (fun z => decide (z ≤ rankV fl q0 q1)) (fun a b hab hb => by simp at hb ⊢; omega) (g := fun k => decide (rankV fl (c0 k) (c1 k) ≤ rankV fl q0 q1)) (fun k _ => rfl) (Nat.le_of_lt h) (hhi)
  have e : bis (fun k => decide (likeOf lk (rulesV fl (c0 k) (c1 k) q0 q1) < 0)) (hi - lo) lo hi = bis (fun k => if lk < 0 then decide (rankV fl (c0 k) (c1 k) ≤ rankV fl q0 q1) else decide (rankV fl (c0 k) (c1 k) < rankV fl q0 q1)) (hi - lo) lo hi :=
    bis_congr _ _ _ fun k h1 h2 => rulesL lk fl (c0 k) (c1 k) q0 q1 (b0 k (by omega)) (b1 k (by omega)) bq0 bq1 bfl
  rw [e]
  by_cases hl : lk < 0
  · simp only [hl, if_true]
    rw [p2]
    simp [Int.not_le.mpr hl]
    omega
  · simp only [hl, if_false]
    rw [p1]
    simp [Int.not_lt.mp hl]
    omega

/-- one turn, side 1 -/
theorem counted_turnR {d : Nat} (hd : d < 470) {c0 c1 : Nat → Int} {n : Nat} (hn : n ≤ 80) (b0 : ∀ k, k < n → 0 ≤ c0 k ∧ c0 k ≤ 2) (b1 : ∀ k, k < n → 0 ≤ c1 k ∧ c1 k ≤ 2) {fl q0 q1 : Int} (bfl : 0 ≤ fl ∧ fl ≤ 3) (bq0 : 0 ≤ q0 ∧ q0 ≤ 2) (bq1 : 0 ≤ q1 ∧ q1 ≤ 2)
    (hs : (rks fl c0 c1 n).Pairwise (· ≤ ·)) {lo hi : Nat} (hhi : hi ≤ n) (lk : Int) :
    (lo < hi → ((bis (fun k => !decide (likeOf lk (rulesV fl q0 q1 (c0 k) (c1 k)) < 0)) (hi - lo) lo hi).1 : Int) = min (max (if (((1 : Int) == 0) == decide (lk ≥ 0)) = true then (((rks fl c0 c1 n).filter fun z => decide (z < rankV fl q0 q1)).length : Int) else (((rks fl c0 c1 n).filter fun z => decide (z ≤ rankV fl q0 q1)).length : Int)) (lo : Int)) (hi : Int)) := by
  intro h
  have p1 := pre_count hs (fun z => decide (z < rankV fl q0 q1)) (fun a b hab hb => by simp at hb ⊢; omega) (g := fun k => decide (rankV fl (c0 k) (c1 k) < rankV fl q0 q1)) (fun k _ => rfl) (Nat.le_of_lt h) (hhi)
  have p2 := pre_count hs (fun z => decide (z ≤ rankV fl q0 q1)) (fun a b hab hb => by simp at hb ⊢; omega) (g := fun k => decide (rankV fl (c0 k) (c1 k) ≤ rankV fl q0 q1)) (fun k _ => rfl) (Nat.le_of_lt h) (hhi)
  have e : bis (fun k => !decide (likeOf lk (rulesV fl q0 q1 (c0 k) (c1 k)) < 0)) (hi - lo) lo hi = bis (fun k => if lk < 0 then decide (rankV fl (c0 k) (c1 k) < rankV fl q0 q1) else decide (rankV fl (c0 k) (c1 k) ≤ rankV fl q0 q1)) (hi - lo) lo hi :=
    bis_congr _ _ _ fun k h1 h2 => rulesR lk fl (c0 k) (c1 k) q0 q1 (b0 k (by omega)) (b1 k (by omega)) bq0 bq1 bfl
  rw [e]
  by_cases hl : lk < 0
  · simp only [hl, if_true]
    rw [p1]
    simp [Int.not_le.mpr hl]
    omega
  · simp only [hl, if_false]
    rw [p2]
    simp [Int.not_lt.mp hl]
    omega

theorem counted_ret (hT : X.tabs) {d : Nat} (hd : d < 470) {c0 c1 : Nat → Int} {n : Nat} (hn : n ≤ 80) (b0 : ∀ k, k < n → 0 ≤ c0 k ∧ c0 k ≤ 2) (b1 : ∀ k, k < n → 0 ≤ c1 k ∧ c1 k ≤ 2) {fl q0 q1 size : Int} (bfl : 0 ≤ fl ∧ fl ≤ 3) (bq0 : 0 ≤ q0 ∧ q0 ≤ 2) (bq1 : 0 ≤ q1 ∧ q1 ≤ 2)
    (hs : (rks fl c0 c1 n).Pairwise (· ≤ ·)) {lo hi : Nat} (hhi : hi ≤ n) :
    Ret w (Lv d) X ks89 (ps89.zip [.list (rowV c0 c1 n), .int fl, .list [.int q0, .int q1, .int (-1)], .int (lo : Int), .int (hi : Int), .int size]) bd89 (.bool true) := by
  have hl : (rks fl c0 c1 n).length = n := by simp [rks]
  delta bd89
  -- rank
  refine ret_cons (thru_assign (ev_callF rfl rfl (gl_law_rank w) rfl rfl (fun _ => rfl) (evl_cons (ev_name rfl rfl) (evl_cons (ev_name rfl rfl) evl_nil (fun _ => rfl)) (fun _ => rfl)) (does_rank (by omega) q0 q1 fl (.int (-1)))) rfl (swaps_cell rfl)) ?_
  -- ranks
  refine ret_cons (thru_compO (xs := List.range n) (fun (k : Nat) => .list [.int (c0 k), .int (c1 k), .int (k : Int)]) (fun _ => true) (fun (k : Nat) => .int (rankV fl (c0 k) (c1 k))) (fun (k : Nat) => [(nItem, .list [.int (c0 k), .int (c1 k), .int (k : Int)])]) (out := Is (rks fl c0 c1 n)) rfl (by rw [filter_all]; simp [Is, rks, Function.comp_def])
    rfl rfl rfl (src_list (ev_name rfl rfl) rfl) rfl rfl (fun _ _ => rfl) (fun k _ D => bind_name rfl) (fun k _ D => trf_nil)
    (fun k _ _ D => ev_callF rfl rfl (gl_law_rank w) rfl rfl (fun _ => rfl) (evl_cons (ev_name rfl rfl) (evl_cons (ev_name rfl rfl) evl_nil (fun _ => rfl)) (fun _ => rfl)) (does_rank (by omega) (c0 k) (c1 k) fl (.int (k : Int)))) (by simp; omega)) ?_
  -- less, upto
  have cnt : ∀ t : Int → Bool, ((rks fl c0 c1 n).filter t).length ≤ n := fun t => by have := List.length_filter_le t (rks fl c0 c1 n); omega
  refine ret_cons (thru_assign (v := .int (((rks fl c0 c1 n).filter fun z => decide (z < rankV fl q0 q1)).length : Int)) (ev_eq (ev_callB rfl rfl (gl_len w) (fun _ => rfl) (fun _ _ => rfl) (evl_cons (ev_compO (xs := rks fl c0 c1 n) V.int (fun z => decide (z < rankV fl q0 q1)) V.int (fun z => [(nOne, .int z)]) (out := Is ((rks fl c0 c1 n).filter fun z => decide (z < rankV fl q0 q1))) rfl rfl
      (src_list (ev_name rfl rfl) rfl) rfl rfl (fun _ _ => rfl) (fun k _ D => bind_name rfl) (fun k _ D => trf_one (tr_cmp (ev_name rfl rfl) (ev_name rfl rfl) cmp_lt rfl)) (fun k _ _ D => ev_name rfl rfl) (by omega)) evl_nil (fun _ => rfl)) (does_len (by have := cnt fun z => decide (z < rankV fl q0 q1); simp [Is]; omega))) (by simp [Is])) rfl (fun _ _ => rfl)) ?_
  refine ret_cons (thru_assign (v := .int (((rks fl c0 c1 n).filter fun z => decide (z ≤ rankV fl q0 q1)).length : Int)) (ev_eq (ev_callB rfl rfl (gl_len w) (fun _ => rfl) (fun _ _ => rfl) (evl_cons (ev_compO (xs := rks fl c0 c1 n) V.int (fun z => decide (z ≤ rankV fl q0 q1)) V.int (fun z => [(nOne, .int z)]) (out := Is ((rks fl c0 c1 n).filter fun z => decide (z ≤ rankV fl q0 q1))) rfl rfl
      (src_list (ev_name rfl rfl) rfl) rfl rfl (fun _ _ => rfl) (fun k _ D => bind_name rfl) (fun k _ D => trf_one (tr_cmp (ev_name rfl rfl) (ev_name rfl rfl) cmp_le rfl)) (fun k _ _ D => ev_name rfl rfl) (by omega)) evl_nil (fun _ => rfl)) (does_len (by have := cnt fun z => decide (z ≤ rankV fl q0 q1); simp [Is]; omega))) (by simp [Is])) rfl (fun _ _ => rfl)) ?_
  -- top
  refine ret_cons (thru_assign (v := .int (hi : Int)) (ev_if (c := false) (tr_cmp (ev_name rfl rfl) ev_none (cmp_isNone rfl) rfl) (fun q => nomatch q) (fun _ => ev_name rfl rfl)) rfl (fun _ _ => rfl)) ?_
  refine ret_cons (thru_for (xs := [.int 0, .int 1]) (ev_list (evl_cons ev_int (evl_cons ev_int evl_nil (fun _ => rfl)) (fun _ => rfl)) (by simp)) rfl (fun _ _ => rfl) fun v hv => ?_) (ret_ret ev_bool)
  have hlikes : ∀ u, u ∈ ([.int 0, .int size, .int (-size)] : List V) → ∃ lk, u = .int lk := fun u hu => by
    simp only [List.mem_cons, List.not_mem_nil, or_false] at hu
    rcases hu with rfl | rfl | rfl <;> exact ⟨_, rfl⟩
  simp only [List.mem_cons, List.not_mem_nil, or_false] at hv
  rcases hv with rfl | rfl
  · refine ⟨_, thru_cons (thru_for (xs := [.int 0, .int size, .int (-size)]) (ev_list (evl_cons ev_int (evl_cons (ev_name rfl rfl) (evl_cons (ev_neg (ev_name rfl rfl)) evl_nil (fun _ => rfl)) (fun _ => rfl)) (fun _ => rfl)) (by simp)) rfl (fun _ _ => rfl) fun u hu => ?_) thru_nil, less_cons rfl fun y u h => h⟩
    obtain ⟨lk, rfl⟩ := hlikes u hu
    have turn := counted_turnL hd hn b0 b1 bfl bq0 bq1 hs (lo := lo) hhi lk
    refine ⟨_, thru_cons (thru_assign (ev_ifInt (tr_cmp (ev_cmp (ev_name rfl rfl) ev_int cmp_eq rfl) (ev_cmp (ev_name rfl rfl) ev_int cmp_ge rfl) cmp_eqBool rfl) (fun _ => ev_name rfl rfl) (fun _ => ev_name rfl rfl)) rfl (fun _ _ => rfl))
      (thru_cons (thru_pair (ev_eq (ev_search true hT (by omega) (fun _ h => h) rfl rfl (gl_law_search w) rfl rfl (fun _ => rfl) (fun _ => rfl) (fun _ => rfl) (fun _ => rfl) (fun _ => rfl) (fun _ => rfl) (fun _ => rfl) (.inl rfl) (ev_name rfl rfl) (ev_name rfl rfl) (ev_name rfl rfl) (evr_rules hT (d := d) (by omega) (fun _ h => h) rfl rfl (gl_law_rules w) rfl rfl (fun _ => rfl) (ev_name rfl rfl)) (ev_name rfl rfl) (ev_name rfl rfl) (ev_name rfl rfl) hn hhi) resB_L) rfl rfl rfl (fun _ => rfl) (fun _ => rfl))
      (thru_cons (thru_skip (tr_cmp (ev_name rfl rfl) ev_int cmp_lt rfl) (decide_eq_false (by omega))
        (thru_cons (thru_if (c := decide ((lo : Int) ≥ hi)) (tr_cmp (ev_name rfl rfl) (ev_name rfl rfl) cmp_ge rfl)
          (fun q => thru_cons (thru_skip (tr_cmp (ev_eq (ev_list (evl_cons (ev_name rfl rfl) (evl_cons (ev_name rfl rfl) evl_nil (fun _ => rfl)) (fun _ => rfl)) (by simp)) (b := .list [.int (lo : Int), .list []]) (by
              rw [bis_stop (by have := of_decide_eq_true q; omega)]; rfl))
            (ev_list (evl_cons (ev_name rfl rfl) (evl_cons (ev_list evl_nil (by simp)) evl_nil (fun _ => rfl)) (fun _ => rfl)) (by simp)) (cmp_notSame (n := 4) ⟨True.intro, True.intro, True.intro⟩ (by decide)) rfl) rfl thru_nil) thru_nil)
          (fun q => thru_cons (thru_skip (tr_bool (tra_or (tr_cmp (ev_name rfl rfl) (ev_callB rfl rfl (gl_min w) (fun _ => rfl) (fun _ _ => rfl) (evl_cons (ev_callB rfl rfl (gl_max w) (fun _ => rfl) (fun _ _ => rfl) (evl_cons (ev_name rfl rfl) (evl_cons (ev_name rfl rfl) evl_nil (fun _ => rfl)) (fun _ => rfl)) does_max2) (evl_cons (ev_name rfl rfl) evl_nil (fun _ => rfl)) (fun _ => rfl)) does_min2) cmp_ne rfl)
            (fun _ => tra_or (tr_cmp (ev_callT rfl rfl (gl_type w) (fun _ => rfl) (fun _ _ => rfl) (evl_cons (ev_name rfl rfl) evl_nil (fun _ => rfl)) does_typeInt) (ev_typ rfl rfl (gl_int w)) cmp_isNotTyp rfl) (fun _ => tra_or0))))
            (by rw [turn (by have := of_decide_eq_false q; omega)]; simp) thru_nil) thru_nil)) thru_nil)) thru_nil)), ?_⟩
    exact less_cons rfl (less_cons rfl (less_cons rfl (less_cons rfl fun y u h => h)))
  · refine ⟨_, thru_cons (thru_for (xs := [.int 0, .int size, .int (-size)]) (ev_list (evl_cons ev_int (evl_cons (ev_name rfl rfl) (evl_cons (ev_neg (ev_name rfl rfl)) evl_nil (fun _ => rfl)) (fun _ => rfl)) (fun _ => rfl)) (by simp)) rfl (fun _ _ => rfl) fun u hu => ?_) thru_nil, less_cons rfl fun y u h => h⟩
    obtain ⟨lk, rfl⟩ := hlikes u hu
    have turn := counted_turnR hd hn b0 b1 bfl bq0 bq1 hs (lo := lo) hhi lk
    refine ⟨_, thru_cons (thru_assign (ev_ifInt (tr_cmp (ev_cmp (ev_name rfl rfl) ev_int cmp_eq rfl) (ev_cmp (ev_name rfl rfl) ev_int cmp_ge rfl) cmp_eqBool rfl) (fun _ => ev_name rfl rfl) (fun _ => ev_name rfl rfl)) rfl (fun _ _ => rfl))
      (thru_cons (thru_pair (ev_eq (ev_search false hT (by omega) (fun _ h => h) rfl rfl (gl_law_search w) rfl rfl (fun _ => rfl) (fun _ => rfl) (fun _ => rfl) (fun _ => rfl) (fun _ => rfl) (fun _ => rfl) (fun _ => rfl) (.inl rfl) (ev_name rfl rfl) (ev_name rfl rfl) (ev_name rfl rfl) (evr_rules hT (d := d) (by omega) (fun _ h => h) rfl rfl (gl_law_rules w) rfl rfl (fun _ => rfl) (ev_name rfl rfl)) (ev_name rfl rfl) (ev_name rfl rfl) (ev_name rfl rfl) hn hhi) resB_R) rfl rfl rfl (fun _ => rfl) (fun _ => rfl))
      (thru_cons (thru_skip (tr_cmp (ev_name rfl rfl) ev_int cmp_lt rfl) (decide_eq_false (by omega))
        (thru_cons (thru_if (c := decide ((lo : Int) ≥ hi)) (tr_cmp (ev_name rfl rfl) (ev_name rfl rfl) cmp_ge rfl)
          (fun q => thru_cons (thru_skip (tr_cmp (ev_eq (ev_list (evl_cons (ev_name rfl rfl) (evl_cons (ev_name rfl rfl) evl_nil (fun _ => rfl)) (fun _ => rfl)) (by simp)) (b := .list [.int (lo : Int), .list []]) (by
              rw [bis_stop (by have := of_decide_eq_true q; omega)]; rfl))
            (ev_list (evl_cons (ev_name rfl rfl) (evl_cons (ev_list evl_nil (by simp)) evl_nil (fun _ => rfl)) (fun _ => rfl)) (by simp)) (cmp_notSame (n := 4) ⟨True.intro, True.intro, True.intro⟩ (by decide)) rfl) rfl thru_nil) thru_nil)
          (fun q => thru_cons (thru_skip (tr_bool (tra_or (tr_cmp (ev_name rfl rfl) (ev_callB rfl rfl (gl_min w) (fun _ => rfl) (fun _ _ => rfl) (evl_cons (ev_callB rfl rfl (gl_max w) (fun _ => rfl) (fun _ _ => rfl) (evl_cons (ev_name rfl rfl) (evl_cons (ev_name rfl rfl) evl_nil (fun _ => rfl)) (fun _ => rfl)) does_max2) (evl_cons (ev_name rfl rfl) evl_nil (fun _ => rfl)) (fun _ => rfl)) does_min2) cmp_ne rfl)
            (fun _ => tra_or (tr_cmp (ev_callT rfl rfl (gl_type w) (fun _ => rfl) (fun _ _ => rfl) (evl_cons (ev_name rfl rfl) evl_nil (fun _ => rfl)) does_typeInt) (ev_typ rfl rfl (gl_int w)) cmp_isNotTyp rfl) (fun _ => tra_or0))))
            (by rw [turn (by have := of_decide_eq_false q; omega)]; simp) thru_nil) thru_nil)) thru_nil)) thru_nil)), ?_⟩
    exact less_cons rfl (less_cons rfl (less_cons rfl (less_cons rfl fun y u h => h)))

theorem does_counted (hT : X.tabs) {d : Nat} (hd : d < 460) {c0 c1 : Nat → Int} {n : Nat} (hn : n ≤ 80) (b0 : ∀ k, k < n → 0 ≤ c0 k ∧ c0 k ≤ 2) (b1 : ∀ k, k < n → 0 ≤ c1 k ∧ c1 k ≤ 2) {fl q0 q1 size : Int} (bfl : 0 ≤ fl ∧ fl ≤ 3) (bq0 : 0 ≤ q0 ∧ q0 ≤ 2) (bq1 : 0 ≤ q1 ∧ q1 ≤ 2)
    (hs : (rks fl c0 c1 n).Pairwise (· ≤ ·)) {lo hi : Nat} (hhi : hi ≤ n) :
    Does w (Lv d) X (.ref 89) [.list (rowV c0 c1 n), .int fl, .list [.int q0, .int q1, .int (-1)], .int (lo : Int), .int (hi : Int), .int size] (.bool true) :=
  does_of (by omega) (fn89 w) rfl (counted_ret hT (by omega) hn b0 b1 bfl bq0 bq1 hs hhi)

/-- one turn, side 0 -/
theorem countedn_turnL {d : Nat} (hd : d < 470) {c0 c1 : Nat → Int} {n : Nat} (hn : n ≤ 80) (b0 : ∀ k, k < n → 0 ≤ c0 k ∧ c0 k ≤ 2) (b1 : ∀ k, k < n → 0 ≤ c1 k ∧ c1 k ≤ 2) {fl q0 q1 : Int} (bfl : 0 ≤ fl ∧ fl ≤ 3) (bq0 : 0 ≤ q0 ∧ q0 ≤ 2) (bq1 : 0 ≤ q1 ∧ q1 ≤ 2)
    (hs : (rks fl c0 c1 n).Pairwise (· ≤ ·)) {lo : Nat} (lk : Int) :
    (lo < n → ((bis (fun k => decide (likeOf lk (rulesV fl (c0 k) (c1 k) q0 q1) < 0)) (n - lo) lo n).1 : Int) = min (max (if (((0 : Int) == 0) == decide (lk ≥ 0)) = true then (((rks fl c0 c1 n).filter fun z => decide (z < rankV fl q0 q1)).length : Int) else (((rks fl c0 c1 n).filter fun z => decide (z ≤ rankV fl q0 q1)).length : Int)) (lo : Int)) (n : Int)) := by
  intro h
  have p1 := pre_count hs (fun z => decide (z < rankV fl q0 q1)) (fun a b hab hb => by simp at hb ⊢; omega) (g := fun k => decide (rankV fl (c0 k) (c1 k) < rankV fl q0 q1)) (fun k _ => rfl) (Nat.le_of_lt h) (Nat.le_refl n)
  have p2 := pre_count hs (fun z => decide (z ≤ rankV fl q0 q1)) (fun a b hab hb => by simp at hb ⊢; omega) (g := fun k => decide (rankV fl (c0 k) (c1 k) ≤ rankV fl q0 q1)) (fun k _ => rfl) (Nat.le_of_lt h) (Nat.le_refl n)
  have e : bis (fun k => decide (likeOf lk (rulesV fl (c0 k) (c1 k) q0 q1) < 0)) (n - lo) lo n = bis (fun k => if lk < 0 then decide (rankV fl (c0 k) (c1 k) ≤ rankV fl q0 q1) else decide (rankV fl (c0 k) (c1 k) < rankV fl q0 q1)) (n - lo) lo n :=
    bis_congr _ _ _ fun k h1 h2 => rulesL lk fl (c0 k) (c1 k) q0 q1 (b0 k (by omega)) (b1 k (by omega)) bq0 bq1 bfl
  rw [e]
  by_cases hl : lk < 0
  · simp only [hl, if_true]
    rw [p2]
    simp [Int.not_le.mpr hl]
    omega
  · simp only [hl, if_false]
    rw [p1]
    simp [Int.not_lt.mp hl]
    omega

/-- one turn, side 1 -/
theorem countedn_turnR {d : Nat} (hd : d < 470) {c0 c1 : Nat → Int} {n : Nat} (hn : n ≤ 80) (b0 : ∀ k, k < n → 0 ≤ c0 k ∧ c0 k ≤ 2) (b1 : ∀ k, k < n → 0 ≤ c1 k ∧ c1 k ≤ 2) {fl q0 q1 : Int} (bfl : 0 ≤ fl ∧ fl ≤ 3) (bq0 : 0 ≤ q0 ∧ q0 ≤ 2) (bq1 : 0 ≤ q1 ∧ q1 ≤ 2)
    (hs : (rks fl c0 c1 n).Pairwise (· ≤ ·)) {lo : Nat} (lk : Int) :
    (lo < n → ((bis (fun k => !decide (likeOf lk (rulesV fl q0 q1 (c0 k) (c1 k)) < 0)) (n - lo) lo n).1 : Int) = min (max (if (((1 : Int) == 0) == decide (lk ≥ 0)) = true then (((rks fl c0 c1 n).filter fun z => decide (z < rankV fl q0 q1)).length : Int) else (((rks fl c0 c1 n).filter fun z => decide (z ≤ rankV fl q0 q1)).length : Int)) (lo : Int)) (n : Int)) := by
  intro h
  have p1 := pre_count hs (fun z => decide (z < rankV fl q0 q1)) (fun a b hab hb => by simp at hb ⊢; omega) (g := fun k => decide (rankV fl (c0 k) (c1 k) < rankV fl q0 q1)) (fun k _ => rfl) (Nat.le_of_lt h) (Nat.le_refl n)
  have p2 := pre_count hs (fun z => decide (z ≤ rankV fl q0 q1)) (fun a b hab hb => by simp at hb ⊢; omega) (g := fun k => decide (rankV fl (c0 k) (c1 k) ≤ rankV fl q0 q1)) (fun k _ => rfl) (Nat.le_of_lt h) (Nat.le_refl n)
  have e : bis (fun k => !decide (likeOf lk (rulesV fl q0 q1 (c0 k) (c1 k)) < 0)) (n - lo) lo n = bis (fun k => if lk < 0 then decide (rankV fl (c0 k) (c1 k) < rankV fl q0 q1) else decide (rankV fl (c0 k) (c1 k) ≤ rankV fl q0 q1)) (n - lo) lo n :=
    bis_congr _ _ _ fun k h1 h2 => rulesR lk fl (c0 k) (c1 k) q0 q1 (b0 k (by omega)) (b1 k (by omega)) bq0 bq1 bfl
  rw [e]
  by_cases hl : lk < 0
  · simp only [hl, if_true]
    rw [p1]
    simp [Int.not_le.mpr hl]
    omega
  · simp only [hl, if_false]
    rw [p2]
    simp [Int.not_lt.mp hl]
    omega

theorem countedn_ret (hT : X.tabs) {d : Nat} (hd : d < 470) {c0 c1 : Nat → Int} {n : Nat} (hn : n ≤ 80) (b0 : ∀ k, k < n → 0 ≤ c0 k ∧ c0 k ≤ 2) (b1 : ∀ k, k < n → 0 ≤ c1 k ∧ c1 k ≤ 2) {fl q0 q1 size : Int} (bfl : 0 ≤ fl ∧ fl ≤ 3) (bq0 : 0 ≤ q0 ∧ q0 ≤ 2) (bq1 : 0 ≤ q1 ∧ q1 ≤ 2)
    (hs : (rks fl c0 c1 n).Pairwise (· ≤ ·)) {lo : Nat} :
    Ret w (Lv d) X ks89 (ps89.zip [.list (rowV c0 c1 n), .int fl, .list [.int q0, .int q1, .int (-1)], .int (lo : Int), .none, .int size]) bd89 (.bool true) := by
  have hl : (rks fl c0 c1 n).length = n := by simp [rks]
  delta bd89
  -- rank
  refine ret_cons (thru_assign (ev_callF rfl rfl (gl_law_rank w) rfl rfl (fun _ => rfl) (evl_cons (ev_name rfl rfl) (evl_cons (ev_name rfl rfl) evl_nil (fun _ => rfl)) (fun _ => rfl)) (does_rank (by omega) q0 q1 fl (.int (-1)))) rfl (swaps_cell rfl)) ?_
  -- ranks
  refine ret_cons (thru_compO (xs := List.range n) (fun (k : Nat) => .list [.int (c0 k), .int (c1 k), .int (k : Int)]) (fun _ => true) (fun (k : Nat) => .int (rankV fl (c0 k) (c1 k))) (fun (k : Nat) => [(nItem, .list [.int (c0 k), .int (c1 k), .int (k : Int)])]) (out := Is (rks fl c0 c1 n)) rfl (by rw [filter_all]; simp [Is, rks, Function.comp_def])
    rfl rfl rfl (src_list (ev_name rfl rfl) rfl) rfl rfl (fun _ _ => rfl) (fun k _ D => bind_name rfl) (fun k _ D => trf_nil)
    (fun k _ _ D => ev_callF rfl rfl (gl_law_rank w) rfl rfl (fun _ => rfl) (evl_cons (ev_name rfl rfl) (evl_cons (ev_name rfl rfl) evl_nil (fun _ => rfl)) (fun _ => rfl)) (does_rank (by omega) (c0 k) (c1 k) fl (.int (k : Int)))) (by simp; omega)) ?_
  -- less, upto
  have cnt : ∀ t : Int → Bool, ((rks fl c0 c1 n).filter t).length ≤ n := fun t => by have := List.length_filter_le t (rks fl c0 c1 n); omega
  refine ret_cons (thru_assign (v := .int (((rks fl c0 c1 n).filter fun z => decide (z < rankV fl q0 q1)).length : Int)) (ev_eq (ev_callB rfl rfl (gl_len w) (fun _ => rfl) (fun _ _ => rfl) (evl_cons (ev_compO (xs := rks fl c0 c1 n) V.int (fun z => decide (z < rankV fl q0 q1)) V.int (fun z => [(nOne, .int z)]) (out := Is ((rks fl c0 c1 n).filter fun z => decide (z < rankV fl q0 q1))) rfl rfl
      (src_list (ev_name rfl rfl) rfl) rfl rfl (fun _ _ => rfl) (fun k _ D => bind_name rfl) (fun k _ D => trf_one (tr_cmp (ev_name rfl rfl) (ev_name rfl rfl) cmp_lt rfl)) (fun k _ _ D => ev_name rfl rfl) (by omega)) evl_nil (fun _ => rfl)) (does_len (by have := cnt fun z => decide (z < rankV fl q0 q1); simp [Is]; omega))) (by simp [Is])) rfl (fun _ _ => rfl)) ?_
  refine ret_cons (thru_assign (v := .int (((rks fl c0 c1 n).filter fun z => decide (z ≤ rankV fl q0 q1)).length : Int)) (ev_eq (ev_callB rfl rfl (gl_len w) (fun _ => rfl) (fun _ _ => rfl) (evl_cons (ev_compO (xs := rks fl c0 c1 n) V.int (fun z => decide (z ≤ rankV fl q0 q1)) V.int (fun z => [(nOne, .int z)]) (out := Is ((rks fl c0 c1 n).filter fun z => decide (z ≤ rankV fl q0 q1))) rfl rfl
      (src_list (ev_name rfl rfl) rfl) rfl rfl (fun _ _ => rfl) (fun k _ D => bind_name rfl) (fun k _ D => trf_one (tr_cmp (ev_name rfl rfl) (ev_name rfl rfl) cmp_le rfl)) (fun k _ _ D => ev_name rfl rfl) (by omega)) evl_nil (fun _ => rfl)) (does_len (by have := cnt fun z => decide (z ≤ rankV fl q0 q1); simp [Is]; omega))) (by simp [Is])) rfl (fun _ _ => rfl)) ?_
  -- top
  refine ret_cons (thru_assign (v := .int (n : Int)) (ev_if (c := true) (tr_cmp (ev_name rfl rfl) ev_none (cmp_isNone rfl) rfl) (fun _ => ev_eq (ev_callB rfl rfl (gl_len w) (fun _ => rfl) (fun _ _ => rfl) (evl_cons (ev_name rfl rfl) evl_nil (fun _ => rfl)) (does_len (by simp [rowV]; omega))) (by simp [rowV])) (fun q => nomatch q)) rfl (fun _ _ => rfl)) ?_
  refine ret_cons (thru_for (xs := [.int 0, .int 1]) (ev_list (evl_cons ev_int (evl_cons ev_int evl_nil (fun _ => rfl)) (fun _ => rfl)) (by simp)) rfl (fun _ _ => rfl) fun v hv => ?_) (ret_ret ev_bool)
  have hlikes : ∀ u, u ∈ ([.int 0, .int size, .int (-size)] : List V) → ∃ lk, u = .int lk := fun u hu => by
    simp only [List.mem_cons, List.not_mem_nil, or_false] at hu
    rcases hu with rfl | rfl | rfl <;> exact ⟨_, rfl⟩
  simp only [List.mem_cons, List.not_mem_nil, or_false] at hv
  rcases hv with rfl | rfl
  · refine ⟨_, thru_cons (thru_for (xs := [.int 0, .int size, .int (-size)]) (ev_list (evl_cons ev_int (evl_cons (ev_name rfl rfl) (evl_cons (ev_neg (ev_name rfl rfl)) evl_nil (fun _ => rfl)) (fun _ => rfl)) (fun _ => rfl)) (by simp)) rfl (fun _ _ => rfl) fun u hu => ?_) thru_nil, less_cons rfl fun y u h => h⟩
    obtain ⟨lk, rfl⟩ := hlikes u hu
    have turn := countedn_turnL hd hn b0 b1 bfl bq0 bq1 hs (lo := lo) lk
    refine ⟨_, thru_cons (thru_assign (ev_ifInt (tr_cmp (ev_cmp (ev_name rfl rfl) ev_int cmp_eq rfl) (ev_cmp (ev_name rfl rfl) ev_int cmp_ge rfl) cmp_eqBool rfl) (fun _ => ev_name rfl rfl) (fun _ => ev_name rfl rfl)) rfl (fun _ _ => rfl))
      (thru_cons (thru_pair (ev_eq (ev_search true hT (by omega) (fun _ h => h) rfl rfl (gl_law_search w) rfl rfl (fun _ => rfl) (fun _ => rfl) (fun _ => rfl) (fun _ => rfl) (fun _ => rfl) (fun _ => rfl) (fun _ => rfl) (.inr ⟨rfl, rfl⟩) (ev_name rfl rfl) (ev_name rfl rfl) (ev_name rfl rfl) (evr_rules hT (d := d) (by omega) (fun _ h => h) rfl rfl (gl_law_rules w) rfl rfl (fun _ => rfl) (ev_name rfl rfl)) (ev_name rfl rfl) (ev_name rfl rfl) (ev_name rfl rfl) hn (Nat.le_refl _)) resB_L) rfl rfl rfl (fun _ => rfl) (fun _ => rfl))
      (thru_cons (thru_skip (tr_cmp (ev_name rfl rfl) ev_int cmp_lt rfl) (decide_eq_false (by omega))
        (thru_cons (thru_if (c := decide ((lo : Int) ≥ n)) (tr_cmp (ev_name rfl rfl) (ev_name rfl rfl) cmp_ge rfl)
          (fun q => thru_cons (thru_skip (tr_cmp (ev_eq (ev_list (evl_cons (ev_name rfl rfl) (evl_cons (ev_name rfl rfl) evl_nil (fun _ => rfl)) (fun _ => rfl)) (by simp)) (b := .list [.int (lo : Int), .list []]) (by
              rw [bis_stop (by have := of_decide_eq_true q; omega)]; rfl))
            (ev_list (evl_cons (ev_name rfl rfl) (evl_cons (ev_list evl_nil (by simp)) evl_nil (fun _ => rfl)) (fun _ => rfl)) (by simp)) (cmp_notSame (n := 4) ⟨True.intro, True.intro, True.intro⟩ (by decide)) rfl) rfl thru_nil) thru_nil)
          (fun q => thru_cons (thru_skip (tr_bool (tra_or (tr_cmp (ev_name rfl rfl) (ev_callB rfl rfl (gl_min w) (fun _ => rfl) (fun _ _ => rfl) (evl_cons (ev_callB rfl rfl (gl_max w) (fun _ => rfl) (fun _ _ => rfl) (evl_cons (ev_name rfl rfl) (evl_cons (ev_name rfl rfl) evl_nil (fun _ => rfl)) (fun _ => rfl)) does_max2) (evl_cons (ev_name rfl rfl) evl_nil (fun _ => rfl)) (fun _ => rfl)) does_min2) cmp_ne rfl)
            (fun _ => tra_or (tr_cmp (ev_callT rfl rfl (gl_type w) (fun _ => rfl) (fun _ _ => rfl) (evl_cons (ev_name rfl rfl) evl_nil (fun _ => rfl)) does_typeInt) (ev_typ rfl rfl (gl_int w)) cmp_isNotTyp rfl) (fun _ => tra_or0))))
            (by rw [turn (by have := of_decide_eq_false q; omega)]; simp) thru_nil) thru_nil)) thru_nil)) thru_nil)), ?_⟩
    exact less_cons rfl (less_cons rfl (less_cons rfl (less_cons rfl fun y u h => h)))
  · refine ⟨_, thru_cons (thru_for (xs := [.int 0, .int size, .int (-size)]) (ev_list (evl_cons ev_int (evl_cons (ev_name rfl rfl) (evl_cons (ev_neg (ev_name rfl rfl)) evl_nil (fun _ => rfl)) (fun _ => rfl)) (fun _ => rfl)) (by simp)) rfl (fun _ _ => rfl) fun u hu => ?_) thru_nil, less_cons rfl fun y u h => h⟩
    obtain ⟨lk, rfl⟩ := hlikes u hu
    have turn := countedn_turnR hd hn b0 b1 bfl bq0 bq1 hs (lo := lo) lk
    refine ⟨_, thru_cons (thru_assign (ev_ifInt (tr_cmp (ev_cmp (ev_name rfl rfl) ev_int cmp_eq rfl) (ev_cmp (ev_name rfl rfl) ev_int cmp_ge rfl) cmp_eqBool rfl) (fun _ => ev_name rfl rfl) (fun _ => ev_name rfl rfl)) rfl (fun _ _ => rfl))
      (thru_cons (thru_pair (ev_eq (ev_search false hT (by omega) (fun _ h => h) rfl rfl (gl_law_search w) rfl rfl (fun _ => rfl) (fun _ => rfl) (fun _ => rfl) (fun _ => rfl) (fun _ => rfl) (fun _ => rfl) (fun _ => rfl) (.inr ⟨rfl, rfl⟩) (ev_name rfl rfl) (ev_name rfl rfl) (ev_name rfl rfl) (evr_rules hT (d := d) (by omega) (fun _ h => h) rfl rfl (gl_law_rules w) rfl rfl (fun _ => rfl) (ev_name rfl rfl)) (ev_name rfl rfl) (ev_name rfl rfl) (ev_name rfl rfl) hn (Nat.le_refl _)) resB_R) rfl rfl rfl (fun _ => rfl) (fun _ => rfl))
      (thru_cons (thru_skip (tr_cmp (ev_name rfl rfl) ev_int cmp_lt rfl) (decide_eq_false (by omega))
        (thru_cons (thru_if (c := decide ((lo : Int) ≥ n)) (tr_cmp (ev_name rfl rfl) (ev_name rfl rfl) cmp_ge rfl)
          (fun q => thru_cons (thru_skip (tr_cmp (ev_eq (ev_list (evl_cons (ev_name rfl rfl) (evl_cons (ev_name rfl rfl) evl_nil (fun _ => rfl)) (fun _ => rfl)) (by simp)) (b := .list [.int (lo : Int), .list []]) (by
              rw [bis_stop (by have := of_decide_eq_true q; omega)]; rfl))
            (ev_list (evl_cons (ev_name rfl rfl) (evl_cons (ev_list evl_nil (by simp)) evl_nil (fun _ => rfl)) (fun _ => rfl)) (by simp)) (cmp_notSame (n := 4) ⟨True.intro, True.intro, True.intro⟩ (by decide)) rfl) rfl thru_nil) thru_nil)
          (fun q => thru_cons (thru_skip (tr_bool (tra_or (tr_cmp (ev_name rfl rfl) (ev_callB rfl rfl (gl_min w) (fun _ => rfl) (fun _ _ => rfl) (evl_cons (ev_callB rfl rfl (gl_max w) (fun _ => rfl) (fun _ _ => rfl) (evl_cons (ev_name rfl rfl) (evl_cons (ev_name rfl rfl) evl_nil (fun _ => rfl)) (fun _ => rfl)) does_max2) (evl_cons (ev_name rfl rfl) evl_nil (fun _ => rfl)) (fun _ => rfl)) does_min2) cmp_ne rfl)
            (fun _ => tra_or (tr_cmp (ev_callT rfl rfl (gl_type w) (fun _ => rfl) (fun _ _ => rfl) (evl_cons (ev_name rfl rfl) evl_nil (fun _ => rfl)) does_typeInt) (ev_typ rfl rfl (gl_int w)) cmp_isNotTyp rfl) (fun _ => tra_or0))))
            (by rw [turn (by have := of_decide_eq_false q; omega)]; simp) thru_nil) thru_nil)) thru_nil)) thru_nil)), ?_⟩
    exact less_cons rfl (less_cons rfl (less_cons rfl (less_cons rfl fun y u h => h)))

theorem does_countedn (hT : X.tabs) {d : Nat} (hd : d < 460) {c0 c1 : Nat → Int} {n : Nat} (hn : n ≤ 80) (b0 : ∀ k, k < n → 0 ≤ c0 k ∧ c0 k ≤ 2) (b1 : ∀ k, k < n → 0 ≤ c1 k ∧ c1 k ≤ 2) {fl q0 q1 size : Int} (bfl : 0 ≤ fl ∧ fl ≤ 3) (bq0 : 0 ≤ q0 ∧ q0 ≤ 2) (bq1 : 0 ≤ q1 ∧ q1 ≤ 2)
    (hs : (rks fl c0 c1 n).Pairwise (· ≤ ·)) {lo : Nat} :
    Does w (Lv d) X (.ref 89) [.list (rowV c0 c1 n), .int fl, .list [.int q0, .int q1, .int (-1)], .int (lo : Int), .none, .int size] (.bool true) :=
  does_of (by omega) (fn89 w) rfl (countedn_ret hT (by omega) hn b0 b1 bfl bq0 bq1 hs)
end Vl
end
section
open PySem PySem.W PySem.W.X PyProof.Rows
set_option Elab.async false
set_option maxRecDepth 100000
set_option maxHeartbeats 2000000
set_option linter.unusedVariables false
namespace Vl
open Mine
variable {w : World} {X : Av} {φ : Around → Prop} {K : List (Str × NameKind)} {ρ : List (Str × V)}
def nLam : Str := ⟨#[60, 108, 97, 109, 98, 100, 97, 62]⟩
def nRank : Str := ⟨#[95, 108, 97, 119, 95, 114, 97, 110, 107]⟩
def lamPs (p : Pos) : Arguments := { posonlyargs := [], args := [{ arg := nItem, annotation := none, pos := p }], vararg := none, kwonlyargs := [], kw_defaults := [], kwarg := none, defaults := [] }
def lamBody (p1 p2 p3 p4 : Pos) : Expr := .Call (.Name nRank p1) [.Name nItem p2, .Name nFalls p3] [] p4
def lamKs : List (Str × NameKind) := [(nItem, .local), (nFalls, .free), (nRank, .globalImplicit)]
def lamSc : Scope := { kind := .function, names := lamKs, isGenerator := false, isCoroutine := false }
theorem lam_wp {d : Nat} (hd : d < 500) {A : Around} {s : Shared} {Q : Value → Shared → Prop} {E : Value → Shared → Prop} (hA : Lv d A) (I : Inv w X s) {f c' cf : Addr} {qual : Str} {p p1 p2 p3 p4 : Pos} {pm ctv : Value}
    (ho : s.heap.get? f = some (kla_obj nLam qual (lamPs p) (lamBody p1 p2 p3 p4) lamSc [(nFalls, cf)] pm c' ctv)) (hcd : s.heap.CodeRec (.ref c') qual) {fl : Int} {tf : Tok} (hc : s.heap.IsCell cf (some (.int fl tf)))
    {a b : Int} {x2 : V} {v : Value} (r : Rep X s.heap (.list [.int a, .int b, x2]) v) (k : ∀ u s', Inv w X s' → Ext s s' → Rep X s'.heap (.int (rankV fl a b)) u → Q u s') :
    wpAny (model prg w) A (call (.ref f) [v]) Q E s := by
  have hlim : s.heap.NoLimit := by
    obtain ⟨ob, hob, hso⟩ := (no_limit w).2
    have hno := (no_limit w).1
    rw [hob] at hno
    exact ⟨_, nsOf_ns (I.kt _ _ hob) hso, hno⟩
  refine wpAny_call (kla_callFunE (by have := hA.2.1; show A.depth < 1000; omega) ho rfl rfl rfl rfl hcd ?_)
  rw [show bindArgs (kla_fn nLam qual (lamPs p) (lamBody p1 p2 p3 p4) lamSc [(nFalls, cf)] pm (.ref c') ctv) ⟨[v], []⟩ = pure [(nItem, v)] from rfl]
  refine wpAny_pure (wpAny_newFunctionEnv (show ∀ x ∈ lamKs, x.2 ≠ .cell by decide) (fun x hx => by rw [List.mem_singleton.mp hx]; rfl) (fun h₁ hns hsb => ⟨hlim.fresh _ hsb, ?_⟩) rfl)
  have kp : ∀ b o, s.heap.get? b = some o → h₁.get? b = some o := fun b o e => hsb.extBut b o (Nat.ne_of_lt (Heap.lt_size e)) (Heap.get?_push_of_some _ e)
  have sm : Same s { s with heap := h₁, toks := s.toks + ([(nItem, v)] : List (Str × Value)).length } := ⟨rfl, rfl⟩
  have I1 : Inv w X { s with heap := h₁, toks := s.toks + ([(nItem, v)] : List (Str × Value)).length } := I.of kp
  have X1 : Ext s { s with heap := h₁, toks := s.toks + ([(nItem, v)] : List (Str × Value)).length } := Ext.of kp sm
  refine kla_codeExpr ?_
  generalize henv : newEnv lamSc s.heap.objs.size mainGlobals [(nFalls, cf)] (qual ++ ".<locals>.") (some f) (.ref c') none builtinsNs = env
  have hE : EnvIs lamKs env := by subst henv; exact ⟨rfl, rfl, rfl, rfl⟩
  have hL : env.locals = s.heap.objs.size := by subst henv; rfl
  have hcl : env.cells = [(nFalls, cf)] := by subst henv; rfl
  obtain ⟨o, cd, hob, hdt⟩ := (fn60 w).obj.imp fun o h => (⟨fd60, h⟩ : ∃ cd, (kt w.params).get 60 = some o ∧ o.data = .func cd)
  have lv : Lv (d + 1) (A.deeper env) := (Lv.deeper (by omega) A env hA (hA.ok (by omega))).1
  clear henv
  show wpAny _ _ (eval (.Call (.Name nRank p1) [.Name nItem p2, .Name nFalls p3] [] p4) env) _ _ _
  refine wpAny_Call_ofName (glob_wp hE I1 rfl rfl (gl_law_rank w) ?_)
  refine Calls.callWith_function (o := o) (fd := cd) ?_
  refine Calls.evalArgs_plain (x := eval (.Name nItem p2) env) (rest := [(false, eval (.Name nFalls p3) env)]) (Calls.spliced_cons ?_)
  refine wpAny_Name (wpAny_loadName_local hE.kind ((hE.k _).trans rfl) (by rw [hL]; exact hns) rfl ?_) rfl
  refine Calls.spliced_cons ?_
  refine wpAny_Name (wpAny_loadName_free hE.kind ((hE.k _).trans rfl) (by rw [hcl]; rfl) (v := .int fl tf) (let ⟨oc, h1, h2⟩ := hc; ⟨oc, kp _ _ h1, h2⟩) ?_) rfl
  refine Calls.spliced_nil ⟨⟨I1.kt _ _ hob, hdt⟩, ?_⟩
  refine does_rank (X := X) (d := d + 1) (by omega) a b fl x2 _ _ [v, .int fl tf] _ _ lv (lv.ok (by omega)) I1 ⟨v, [.int fl tf], rfl, Rep.up X1.lists _ _ r, .int fl tf, [], rfl, ⟨tf, rfl⟩, rfl⟩ fun u s' I2 X2 r2 => ?_
  exact k u s' I2 (X1.trans X2) r2
end Vl
end
section
open PySem PySem.W PySem.W.X PyProof.Rows
set_option Elab.async false
set_option maxRecDepth 100000
set_option maxHeartbeats 2000000
set_option linter.unusedVariables false
namespace Vl
open Mine
variable {w : World} {X : Av} {φ : Around → Prop} {K : List (Str × NameKind)} {ρ : List (Str × V)}
def tri (t : Int × Int × Int) : V := .list [.int t.1, .int t.2.1, .int t.2.2]
def rkT (fl : Int) (t : Int × Int × Int) : Int := rankV fl t.1 t.2.1
theorem perm_lift {α β : Type} {f : α → β} {l₁ l₂ : List β} (h : l₁.Perm l₂) : ∀ T : List α, l₂ = T.map f → ∃ T' : List α, l₁ = T'.map f ∧ T'.Perm T := by
  induction h with
  | nil => exact fun T e => ⟨T, e, .refl _⟩
  | cons x _ ih =>
    intro T e
    cases T with
    | nil => simp at e
    | cons t T =>
      simp only [List.map_cons, List.cons.injEq] at e
      obtain ⟨T', e1, p⟩ := ih T e.2
      exact ⟨t :: T', by rw [List.map_cons, e.1, e1], p.cons t⟩
  | swap x y l =>
    intro T e
    match T, e with
    | a :: b :: T, e =>
      simp only [List.map_cons, List.cons.injEq] at e
      exact ⟨b :: a :: T, by rw [List.map_cons, List.map_cons, e.1, e.2.1, e.2.2], .swap ..⟩
  | trans _ _ ih1 ih2 =>
    intro T e
    obtain ⟨T1, e1, p1⟩ := ih2 T e
    obtain ⟨T2, e2, p2⟩ := ih1 T1 e1
    exact ⟨T2, e2, p2.trans p1⟩
def allOf (h : Heap) (L : Addr) : List (Addr × Obj) := (List.range h.objs.size).filterMap fun b => if b = L then none else (h.get? b).map fun o => (b, o)
theorem all_in {h : Heap} {L b : Addr} {o : Obj} (hb : b ≠ L) (e : h.get? b = some o) : (b, o) ∈ allOf h L :=
  List.mem_filterMap.mpr ⟨b, List.mem_range.mpr (Heap.lt_size e), by rw [if_neg hb, e]; rfl⟩
theorem in_all {h : Heap} {L : Addr} {p : Addr × Obj} (m : p ∈ allOf h L) : p.1 ≠ L ∧ h.get? p.1 = some p.2 := by
  obtain ⟨b, _, e⟩ := List.mem_filterMap.mp m
  by_cases hb : b = L
  · rw [if_pos hb] at e; cases e
  · rw [if_neg hb] at e
    cases q : h.get? b with
    | none => rw [q] at e; cases e
    | some o => rw [q] at e; cases e; exact ⟨hb, q⟩
theorem rep_zip {h : Heap} : ∀ {ts : List (Int × Int × Int)} {vs : List Value}, RepL X h (ts.map tri) vs → ∀ p ∈ ts.zip vs, Rep X h (tri p.1) p.2
  | [], _, _, p, m => by simp at m
  | t :: ts, _, ⟨v, r, e, hv, hr⟩, p, m => by
    rw [e] at m
    rcases List.mem_cons.mp (by simpa using m : p ∈ (t, v) :: ts.zip r) with rfl | m
    · exact hv
    · exact rep_zip hr p m
theorem zip_rep {h : Heap} : ∀ {T : List ((Int × Int × Int) × Value)}, (∀ p ∈ T, Rep X h (tri p.1) p.2) → RepL X h ((T.map Prod.fst).map tri) (T.map Prod.snd)
  | [], _ => rfl
  | p :: T, k => ⟨p.2, T.map Prod.snd, rfl, k p List.mem_cons_self, zip_rep fun q hq => k q (List.mem_cons_of_mem _ hq)⟩
theorem sort_wp {d : Nat} (hd : d < 400) {A : Around} {s : Shared} {Q : Value → Shared → Prop} {E : Value → Shared → Prop} (hA : Lv d A) (I : Inv w X s) {L : Addr} {m : Str → Option Value} (h9 : 95 ≤ L) (hLB : X.B L = none) (hn : s.heap.Ns L m)
    {f c' cf : Addr} {qual : Str} {p p1 p2 p3 p4 : Pos} {pm ctv : Value}
    (ho : s.heap.get? f = some (kla_obj nLam qual (lamPs p) (lamBody p1 p2 p3 p4) lamSc [(nFalls, cf)] pm c' ctv)) (hcd : s.heap.CodeRec (.ref c') qual) {fl : Int} {tf : Tok} (hc : s.heap.IsCell cf (some (.int fl tf)))
    {ts : List (Int × Int × Int)} {u : Value} (r : Rep X s.heap (.list (ts.map tri)) u) (h64 : ts.length < 64)
    (k : ∀ (ts' : List (Int × Int × Int)) (u : Value) (s' : Shared), ts'.Perm ts → (ts'.map (rkT fl)).Pairwise (· ≤ ·) → (∀ b o, b ≠ L → s.heap.get? b = some o → s'.heap.get? b = some o) → s'.heap.Ns L m → Same s s' → Rep X s'.heap (.list (ts'.map tri)) u → Q u s') :
    wpAny (model prg w) A (call (.builtin "sorted") [u] [(Str.ofString "key", .ref f)]) Q E s := by
  obtain ⟨l, vs, n, rfl, l9, lx, g, q⟩ := r
  obtain ⟨oL, eL, tL⟩ := ns_tag hn
  have dL : ∃ es ep, oL.data = .dict es ep := by
    obtain ⟨o, es, ep, e, hd, _⟩ := hn
    rw [eL] at e; cases e
    exact ⟨es, ep, hd⟩
  obtain ⟨esL, epL, dL⟩ := dL
  have ne : ∀ {b : Addr} {o : Obj}, s.heap.get? b = some o → (∀ es ep, o.data ≠ .dict es ep) → b ≠ L := fun e hdt q => by subst q; rw [eL] at e; cases e; exact hdt _ _ dL
  have hz : ∀ a, ((⟨#[], {}⟩ : Heap)).get? a = none := fun a => get_none (Nat.zero_le _)
  have qlen : vs.toList.length = ts.length := by rw [q.len, List.length_map]
  refine ksk_sorted (kz := ts.map (rkT fl)) (h₀ := ⟨#[], {}⟩) (L := L) (m := m) (news := allOf s.heap L) (vs := vs.toList) (f := .ref f) (b := false) ⟨hn, fun b o e => (by rw [hz] at e; cases e), Nat.zero_le _⟩
    (fun p hp => ⟨(in_all hp).2, (in_all hp).1, hz _⟩) (by simpa using isList_of g) (by rw [List.length_map, qlen]) (by rw [qlen]; exact h64) (ksk_s1 _ _) (fun x => ksk_l1 _ _) (fun x => ksk_t1 _ _)
    (fun i v kk hv hk h tk own F' N' => ?_) fun D h' tk out c F' N' l1 ko => ?_
  · have kept : ∀ b o, b ≠ L → s.heap.get? b = some o → h.get? b = some o := fun b o hb e => (N' (b, o) (List.mem_append_left _ (all_in hb e))).1
    obtain ⟨oL', eL', _⟩ := ns_tag F'.ns
    have It : Inv w ⟨X.l, fun _ => none, []⟩ s := ⟨I.kt, I.n, I.k, I.r, I.x, fun _ _ e => (nomatch e), fun _ h => (nomatch h)⟩
    have Ih : Inv w ⟨X.l, fun _ => none, []⟩ { s with heap := h, toks := tk } := It.touch h9 eL (soft_of3 tL) (fun _ => ⟨_, eL'⟩) rfl (fun ⟨_, h, _⟩ => nomatch h) kept
    have I' : Inv w ⟨X.l, h.get?, []⟩ { s with heap := h, toks := tk } := ⟨Ih.kt, Ih.n, Ih.k, Ih.r, Ih.x, fun b o e => e, fun _ h => nomatch h⟩
    obtain ⟨t, ht, rfl⟩ : ∃ t, ts[i]? = some t ∧ rkT fl t = kk := by
      rw [List.getElem?_map] at hk
      cases q : ts[i]? with
      | none => rw [q] at hk; cases hk
      | some t => rw [q] at hk; cases hk; exact ⟨t, rfl, rfl⟩
    obtain ⟨v', hv', rv⟩ := q.at i (tri t) (by rw [List.getElem?_map, ht]; rfl)
    rw [hv] at hv'; cases hv'
    have lk : Lists X s.heap h := lists_but eL (by rw [tL]; decide) kept
    have r' : Rep ⟨X.l, h.get?, []⟩ h (tri t) v := Rep.less (X := X) (Y := ⟨X.l, h.get?, []⟩) (fun a h => h) (fun a o e _ => kept a o (fun q => by subst q; rw [hLB] at e; cases e) (I.bs a o e)) _ _ (Rep.up lk _ _ rv)
    obtain ⟨cc, oc, vsc, tq, e1, e2, e3, e4⟩ := hcd
    obtain ⟨ox, x1, x2⟩ := hc
    have lv : Lv (d + 1) A.in1.in1 := ⟨hA.1, Nat.le_succ_of_le hA.2.1, by have := hA.2.2; show A.units + 1 + 1 ≤ _; omega⟩
    refine lam_wp (X := ⟨X.l, h.get?, []⟩) (d := d + 1) (by omega) lv I' (kept _ _ (ne ho (fun _ _ => nofun)) ho) ⟨cc, oc, vsc, tq, e1, kept _ _ (ne e2 (fun es ep q => by rw [e3] at q; cases q)) e2, e3, e4⟩ ⟨ox, kept _ _ (ne x1 (fun es ep q => by rw [x2] at q; cases q)) x1, x2⟩ r' fun u s' I2 X2 r2 => ?_
    obtain ⟨t', rfl⟩ := r2
    refine ⟨s'.heap, s'.toks, t', ?_, rfl, ⟨F'.ns.keeps fun b o e => I2.bs b o e, fun b o e => (by rw [hz] at e; cases e), Nat.zero_le _⟩, fun p hp => ⟨I2.bs _ _ (N' p hp).1, (N' p hp).2⟩⟩
    obtain ⟨h1, h2⟩ := X2.same
    cases s'
    simp only [Prod.mk.injEq] at h1 h2
    rw [h1, h2.1, h2.2]
  · have kept : ∀ b o, b ≠ L → s.heap.get? b = some o → h'.get? b = some o := fun b o hb e => (N' (b, o) (List.mem_cons_of_mem _ (all_in hb e))).1
    obtain ⟨ps, hp, hout, hs⟩ := ko
    have ez : (ts.map (rkT fl)).zip vs.toList = (ts.zip vs.toList).map fun p => (rkT fl p.1, p.2) := by
      rw [List.zip_map_left]; rfl
    obtain ⟨T', eT, pT⟩ := perm_lift hp _ ez
    have lk : Lists X s.heap h' := lists_but eL (by rw [tL]; decide) kept
    have oD := N' (D, seqObj "list" out c) (.head _)
    have pf : (T'.map Prod.fst).Perm ts := by
      have := pT.map Prod.fst
      rwa [List.map_fst_zip (by omega)] at this
    have hrep : RepL X h' ((T'.map Prod.fst).map tri) out.toList := by
      have e : out.toList = T'.map Prod.snd := by rw [hout, eT, List.map_map]; rfl
      rw [e]
      exact zip_rep fun p hp' => Rep.up lk _ _ (rep_zip q p (pT.mem_iff.mp hp'))
    have h94 : ∃ o, s.heap.get? 94 = some o := by
      have e : ((kt w.params).get 94).isSome = true := rfl
      obtain ⟨o, ho⟩ := Option.isSome_iff_exists.mp e
      exact ⟨o, I.kt 94 o ho⟩
    obtain ⟨o94, e94⟩ := h94
    have D9 : 95 ≤ D := l1 (94, o94) (all_in (Nat.ne_of_lt h9) e94)
    refine k (T'.map Prod.fst) (.ref D) _ pf ?_ kept F'.ns ⟨rfl, rfl⟩ ⟨D, out, c, rfl, D9, fun m => ?_, by rw [lst_is]; exact oD.1, hrep⟩
    · rw [List.map_map]
      have h2 : (T'.map fun p => (rkT fl p.1, p.2)).Pairwise (fun p q => p.1 ≤ q.1) := by
        rw [← eT]
        exact hs.imp fun h => by simpa using h
      have := (List.pairwise_map.mp h2)
      exact List.pairwise_map.mpr this
    · obtain ⟨_, o, e⟩ := I.x D m
      exact absurd (l1 (D, o) (all_in oD.2.1 e)) (Nat.lt_irrefl _)
end Vl
end
section
open PySem PySem.W PySem.W.X PyProof.Rows
set_option Elab.async false
set_option maxRecDepth 100000
set_option maxHeartbeats 2000000
set_option linter.unusedVariables false
namespace Vl
open Mine
variable {w : World} {X : Av} {φ : Around → Prop} {K : List (Str × NameKind)} {ρ : List (Str × V)}
theorem pick_take (items : Array Value) (b : Nat) : slicePick items none (some (b : Int)) none = (items.toList.take b).toArray := by
  by_cases h : b ≤ items.size
  · exact slicePick_upto items b h
  · have e : sliceBounds none (some (b : Int)) none items.size = sliceBounds none (some (items.size : Int)) none items.size := by
      simp only [sliceBounds, Option.getD_none]
      have h1 : ¬ ((b : Int) < 0) := by omega
      have h2 : ¬ ((items.size : Int) < 0) := by omega
      simp only [h1, h2, if_false, show (1 : Int) > 0 by decide, if_true]
      congr 2
      omega
    have := slicePick_upto items items.size (Nat.le_refl _)
    unfold slicePick at this ⊢
    rw [e, this, List.take_of_length_le (by simp), List.take_of_length_le (by simp; omega)]
theorem RepL.take {h : Heap} : ∀ {l : List V} {vs : List Value} (n : Nat), RepL X h l vs → RepL X h (l.take n) (vs.take n)
  | [], _, n, r => by
    have e : _ = [] := r
    rw [e]; simp [RepL]
  | x :: l, _, 0, _ => rfl
  | x :: l, _, n + 1, ⟨v, r, e, p, q⟩ => by rw [e]; exact ⟨v, r.take n, rfl, p, RepL.take n q⟩
theorem rep_ints {h : Heap} : ∀ {l : List Int} {vs : List Value}, IntsAre vs l → RepL X h (Is l) vs
  | _, _, .nil => rfl
  | _, _, .cons n t r => ⟨_, _, rfl, ⟨t, rfl⟩, rep_ints r⟩
/-- the head of a list from outside -/
theorem ev_sliceOwn {e e2 : Expr} {p pos : Pos} {xs : List Int} {n : Nat} (h : Ev w φ X K ρ e (.own xs)) (h2 : Ev w φ X K ρ e2 (.int (n : Int))) (hb : xs.length ≤ 1000) (ht : ∀ o r, letTemporaryGo e o r = pure ()) :
    Ev w φ X K ρ (.Subscript e (.Slice none (some e2) none p) pos) (.list (Is (xs.take n))) := by
  intro env A s Q E hP hA hE I H k
  refine wpAny_Subscript_list_slice (h env A s _ E hP hA hE I H fun u s1 I1 X1 r1 => ?_) ht
  refine wpAny_pure ?_
  refine h2 env A s1 _ E hP hA hE I1 (H.up X1) fun y s2 I2 X2 r2 => ?_
  obtain ⟨a, o, vs, m, rfl, hB, hc, hd, ia⟩ := r1
  obtain ⟨t, rfl⟩ := r2
  have g := I2.bs a o hB
  have hsz : vs.size ≤ 1000 := by have := ia.length; simp at this; omega
  refine ⟨a, vs, none, some (n : Int), rfl, ⟨o, g, hc, _, hd⟩, by unfold sizeLine; omega, .none, .int _ _, ?_⟩
  have kp : ∀ b o, s2.heap.get? b = some o → ((s2.heap.push { cls := .type "slice", data := .fields #[.none, .int (n : Int) t, .none] }).push { cls := .type "list", data := .seq (slicePick vs none (some (n : Int)) none) }).get? b = some o := fun b o e => Heap.get?_push_of_some _ (Heap.get?_push_of_some _ e)
  have X3 : Ext s2 { s2 with heap := (s2.heap.push { cls := .type "slice", data := .fields #[.none, .int (n : Int) t, .none] }).push { cls := .type "list", data := .seq (slicePick vs none (some (n : Int)) none) } } := Ext.of kp ⟨rfl, rfl⟩
  have hz : (s2.heap.push { cls := .type "slice", data := .fields #[.none, .int (n : Int) t, .none] }).objs.size = s2.heap.objs.size + 1 := Heap.size_push ..
  refine k _ _ (I2.of kp) ((X1.trans X2).trans X3) ⟨s2.heap.objs.size + 1, slicePick vs none (some (n : Int)) none, 0, rfl, Nat.le_succ_of_le I2.high, fun m => ?_, ?_, ?_⟩
  · obtain ⟨_, o, e⟩ := I2.x _ m
    have := Heap.lt_size e
    exact absurd this (Nat.not_lt.mpr (Nat.le_succ _))
  · rw [lst_is, ← hz]; exact Heap.get?_push_size _ rfl
  · have e : (slicePick vs none (some (n : Int)) none).toList = vs.toList.take n := by rw [pick_take]
    rw [e]
    have := (rep_ints (X := X) (h := ((s2.heap.push { cls := .type "slice", data := .fields #[.none, .int (n : Int) t, .none] }).push { cls := .type "list", data := .seq (slicePick vs none (some (n : Int)) none) })) ia).take n
    unfold Is at this ⊢
    rw [← List.map_take] at this
    exact this
/-- the rest of a run, from a frame with these names on -/
def Runs (w : World) (X : Av) (env : Env) (A : Around) (s₀ : Shared) (Q : Flow → Shared → Prop) (E : Value → Shared → Prop) (ρ : List (Str × V)) (ss : List Stmt) : Prop :=
  ∀ s, Frm w X env s₀ s ρ → wpAny (model prg w) A (execs ss env) Q E s
structure Ctx (φ : Around → Prop) (K : List (Str × NameKind)) (env : Env) (A : Around) : Prop where
  hP : φ A
  hA : AOk A
  hE : EnvIs K env
  hC : CellsIn K env
variable {env : Env} {A : Around} {s₀ : Shared} {Q : Flow → Shared → Prop} {E : Value → Shared → Prop}
theorem runs_cons {st : Stmt} {ss : List Stmt} {ρ₁ : List (Str × V)} (c : Ctx φ K env A) (h : Thru w φ X K ρ st ρ₁) (h' : Runs w X env A s₀ Q E ρ₁ ss) : Runs w X env A s₀ Q E ρ (st :: ss) := fun s F =>
  wpAny_execs_cons (h env A s₀ s _ E c.hP c.hA c.hE c.hC F fun s1 F1 _ => h' s1 F1)
theorem runs_skip {t : Expr} {body : List Stmt} {pos : Pos} {ss : List Stmt} {b : Bool} (c : Ctx φ K env A) (h : Tr w φ X K ρ t b) (hb : b = false) (h' : Runs w X env A s₀ Q E ρ ss) : Runs w X env A s₀ Q E ρ (.If t body [] pos :: ss) :=
  runs_cons c (thru_skip h hb thru_nil) h'
theorem runs_ret {e : Expr} {pos : Pos} {ss : List Stmt} {v : V} (c : Ctx φ K env A) (h : Ev w φ X K ρ e v) (k : ∀ u s', Inv w X s' → Ext s₀ s' → Rep X s'.heap v u → Q (.ret u) s') : Runs w X env A s₀ Q E ρ (.Return (some e) pos :: ss) := fun s F =>
  ret_ret h env A s₀ s Q E c.hP c.hA c.hE c.hC F k
theorem Does.mono {φ' : Around → Prop} {f : Value} {vs : List V} {v : V} (h : Does w φ X f vs v) (k : ∀ A, φ' A → φ A) : Does w φ' X f vs v := fun A s us Q E hP => h A s us Q E (k A hP)
end Vl
end
section
open PySem PySem.W PySem.W.X PyProof.Rows
set_option Elab.async false
set_option maxRecDepth 100000
set_option maxHeartbeats 2000000
set_option linter.unusedVariables false
namespace Vl
open Mine
variable {w : World} {X : Av} {φ : Around → Prop} {K : List (Str × NameKind)} {ρ : List (Str × V)}
def Av.grow (X : Av) (ps : Array Value) : Av := ⟨X.l, fun b => if b = 91 then some (tabObj ps) else X.B b, X.fr⟩
theorem own_grow (h91 : X.B 91 = some (tabObj #[])) (ps : Array Value) : OwnB X (X.grow ps) := fun a o e hc => by
  show (if a = 91 then some (tabObj ps) else X.B a) = some o
  by_cases q : a = 91
  · subst q
    rw [h91] at e; cases e; cases hc
  · rw [if_neg q, e]
theorem code93 {h : Heap} (I : KtIn (kt w.params) h) : CodeHd h 93 91 :=
  ⟨_, _, _, _, _, _, _, _, _, I _ _ rfl, rfl, rfl, rfl, rfl, rfl, rfl, rfl, rfl, by decide⟩
theorem blt_at {h : Heap} (I : KtIn (kt w.params) h) : h.BuiltinsAt (nsOf (gObj w)) 91 :=
  ⟨4, _, by kernel_rfl, by decide, by decide, by decide, I 4 _ rfl, rfl, rfl, rfl⟩
theorem no91 : (kt w.params).get 91 = none := by kernel_rfl
theorem mklam {env : Env} {A : Around} {s : Shared} {Q : Value → Shared → Prop} {E : Value → Shared → Prop} (hE : EnvIs K env) (hco : env.code = .ref 93) (I : Inv w X s) (h91 : X.B 91 = some (tabObj #[])) {cf : Addr} (hcf : env.cells.lookup nFalls = some cf) {p p1 p2 p3 p4 pos : Pos}
    (k : ∀ f qual pm ctv c' ps s', Inv w (X.grow ps) s' → Ext s s' → s'.heap.get? f = some (kla_obj nLam qual (lamPs p) (lamBody p1 p2 p3 p4) lamSc [(nFalls, cf)] pm c' ctv) → s'.heap.CodeRec (.ref c') qual → Q (.ref f) s') :
    wpAny (model prg w) A (eval (.Lambda (lamPs p) (lamBody p1 p2 p3 p4) lamSc pos) env) Q E s := by
  have e91 := I.bs 91 _ h91
  refine kla_eval rfl (kla_makeFunction (mg := nsOf (gObj w)) (clos := [(nFalls, cf)]) ?_ hE.glob (g_ns I.kt) hco (code93 I.kt) e91 True.intro rfl (by decide) (blt_at I.kt) fun c' ctv h' tk hx hge hlt hrec htb => ?_)
  · unfold closureFor
    simp [lamSc, lamKs, cellOf, hcf]
  · have kp : ∀ b o, s.heap.get? b = some o → b ∉ ([91] : List Addr) → (h'.push (kla_obj nLam (env.qual ++ "<lambda>") (lamPs p) (lamBody p1 p2 p3 p4) lamSc [(nFalls, cf)] ((nsOf (gObj w) "__name__").getD .none) c' ctv)).get? b = some o :=
      fun b o e hb => Heap.get?_push_of_some _ (hx b o (fun q => hb (by rw [q]; exact List.mem_singleton.mpr rfl)) e)
    refine k h'.objs.size (env.qual ++ "<lambda>") ((nsOf (gObj w) "__name__").getD .none) ctv c' (#[] ++ #[rawInt pos.line, rawInt pos.col, .ref c']) _ ⟨fun b o e => kp b o (I.kt b o e) (fun m => ?_), I.n.keeps (Y := [91]) kp (by decide) (by decide), I.k.keeps (Y := [91]) kp (by decide) (by decide), I.r.keeps (Y := [91]) kp (by decide) (by decide),
      fun a ha => let ⟨h, o, e⟩ := I.x a ha; ⟨h, o, kp a o e (high_off h (by decide))⟩, fun b o e => ?_, fun en he => ?_⟩ ⟨fun b o h9 _ e => kp b o e (high_off h9 (by decide)), fun L m h9 n => ns_off n fun o e => kp _ _ e (high_off h9 (by decide)), fun b o e => ?_, ⟨rfl, rfl⟩⟩ (Heap.get?_push_size _ rfl) ?_
    · rw [List.mem_singleton.mp m, no91] at e; cases e
    · by_cases hb : b = 91
      · subst hb
        have : some (tabObj (#[] ++ #[rawInt pos.line, rawInt pos.col, .ref c'])) = some o := by simpa [Av.grow] using e
        cases this
        exact Heap.get?_push_of_some _ htb
      · have e' : X.B b = some o := by simpa [Av.grow, hb] using e
        exact kp b o (I.bs b o e') (fun m => hb (List.mem_singleton.mp m))
    · obtain ⟨h1, L, o, h2, h3, h4, h5, h6⟩ := I.f en he
      refine ⟨h1, L, o, h2, h3, ?_, kp L o h5 (high_off h3 (by decide)), h6⟩
      show (if L = 91 then _ else X.B L) = none
      rw [if_neg (fun q => by subst q; exact absurd h3 (by decide)), h4]
    · by_cases hb : b = 91
      · subst hb; exact ⟨_, Heap.get?_push_of_some _ htb⟩
      · exact ⟨o, kp b o e (fun m => hb (List.mem_singleton.mp m))⟩
    · obtain ⟨cc, oc, vsc, tq, e1, e2, e3, e4⟩ := hrec
      exact ⟨cc, oc, vsc, tq, e1, Heap.get?_push_of_some _ e2, e3, e4⟩
theorem Frm.over {X' : Av} {env : Env} {s₀ s s' : Shared} (F : Frm w X env s₀ s ρ) (I : Inv w X' s') (x : Ext s s') (hl : X'.l = X.l) (ho : OwnB X X') (hb : ∀ b, s₀.heap.get? b = none → X'.B b = none) : Frm w X' env s₀ s' ρ where
  I := I
  H := fun y v e => let ⟨u, r, b⟩ := F.H.up x y v e; ⟨u, Rep.less (fun a h => hl ▸ h) ho _ _ r, b⟩
  ext := F.ext.trans x
  hi := F.hi
  ox := ⟨fun a h => F.ox.1 a (hl ▸ h), hb⟩
  loc := F.loc
  ns := let ⟨m, n⟩ := F.ns; ⟨m, x.ns _ _ (Nat.le_trans F.hi F.loc) n⟩
  cell := fun y c e => let ⟨h1, h2, v, o, h3, h4⟩ := F.cell y c e; ⟨h1, h2, v, o, x.keep _ _ (Nat.le_trans F.hi h1) (by unfold tagOf; rw [h4]; show (6 : Nat) ≠ 3; decide) h3, h4⟩
  apart := F.apart
def nLaid : Str := ⟨#[108, 97, 105, 100]⟩
def nSorted : Str := ⟨#[115, 111, 114, 116, 101, 100]⟩
theorem runs_laid {env : Env} {A : Around} {s₀ : Shared} {Q : Flow → Shared → Prop} {E : Value → Shared → Prop} {p0 q1 q2 q3 q4 p p1 p2 p3 p4 pos kp : Pos} {ss : List Stmt} {d : Nat} (hd : d < 400) (c : Ctx φ K env A) (hA : Lv d A) (hco : env.code = .ref 93) (h91 : X.B 91 = some (tabObj #[])) {ts : List (Int × Int × Int)} {fl : Int}
    (hρr : ρ.lookup nRow = some (.list (ts.map tri))) (hρf : ρ.lookup nFalls = some (.int fl)) (h64 : ts.length < 64) (hks : K.lookup nSorted = some .globalImplicit) (hkf : K.lookup nFalls = some .cell) (hkl : (K.lookup nLaid == some .local || K.lookup nLaid == some .cell) = true)
    (k : ∀ (ts' : List (Int × Int × Int)) (ps : Array Value), ts'.Perm ts → (ts'.map (rkT fl)).Pairwise (· ≤ ·) → Runs w (X.grow ps) env A s₀ Q E ((nLaid, .list (ts'.map tri)) :: ρ) ss) :
    Runs w X env A s₀ Q E ρ (.Assign [.Name nLaid p0] (.Call (.Name nSorted q1) [.Name nRow q2] [⟨some nKey, .Lambda (lamPs p) (lamBody p1 p2 p3 p4) lamSc pos, kp⟩] q3) q4 :: ss) := by
  intro s F
  refine wpAny_execs_cons (wpAny_Assign_Name ?_ rfl)
  refine wpAny_Call_ofName (glob_wp c.hE F.I hks rfl (gl_sorted w) ?_)
  refine callWith_kw ?_
  rw [plain_back (es := []) (fun _ => rfl)]
  refine Calls.spliced_cons (ev_name hρr rfl env A s _ E c.hP c.hA c.hE F.I F.H fun u s1 I1 X1 r1 => ?_)
  refine Calls.spliced_nil ?_
  have F1 := F.up I1 X1
  obtain ⟨uf, rf, bf⟩ := F1.H nFalls _ hρf
  obtain ⟨tf, rfl⟩ := rf
  have hkf' : env.kindOf nFalls = some .cell := (c.hE.k _).trans hkf
  obtain ⟨cf, hcf, cf9, hcell⟩ : ∃ cf, env.cells.lookup nFalls = some cf ∧ 95 ≤ cf ∧ s1.heap.IsCell cf (some (.int fl tf)) := by
    rcases bf with ⟨a, _⟩ | ⟨_, cc, e, h9, h⟩
    · rw [hkf'] at a; cases a
    · exact ⟨cc, e, h9, h⟩
  show wpAny (model prg w) A (evalAll [(do let v ← eval (.Lambda (lamPs p) (lamBody p1 p2 p3 p4) lamSc pos) env; standAt q3; pure v)]) _ E s1
  refine wpAny_evalAll_cons (wpAny_bind (mklam c.hE hco I1 h91 hcf fun f qual pm ctv c' ps s2 I2 X2 ho hcd => ?_))
  refine wpAny_bind (wpAny_standAt (wpAny_pure (wpAny_evalAll_nil ?_)))
  have F2 : Frm w (X.grow ps) env s₀ s2 ρ := F1.over I2 X2 rfl (own_grow h91 ps) fun b hb => by
    show (if b = 91 then some (tabObj ps) else X.B b) = none
    by_cases q : b = 91
    · subst q
      have := F1.ox.2 91 hb
      rw [h91] at this; cases this
    · rw [if_neg q]; exact F1.ox.2 b hb
  show wpAny (model prg w) A (call (.builtin "sorted") [u] [(nKey, .ref f)]) _ E s2
  rw [show nKey = Str.ofString "key" by kernel_rfl]
  obtain ⟨m, n⟩ := F2.ns
  have L9 : 95 ≤ env.locals := Nat.le_trans F2.hi F2.loc
  have hcell2 : s2.heap.IsCell cf (some (.int fl tf)) := let ⟨o, h1, h2⟩ := hcell; ⟨o, X2.keep _ _ cf9 (by unfold tagOf; rw [h2]; show (6 : Nat) ≠ 3; decide) h1, h2⟩
  refine sort_wp hd hA I2 L9 (F2.ox.2 _ (get_none F2.loc)) n ho hcd hcell2 (Rep.less (X := X) (Y := X.grow ps) (fun a (h : a ∈ X.l) => h) (own_grow h91 ps) _ _ (Rep.up X2.lists _ _ r1)) h64 fun ts' u' s3 pp pw kept nL sm r3 => ?_
  obtain ⟨oL, eL, tL⟩ := ns_tag n
  obtain ⟨I3, X3, l3, S3⟩ := F2.own F2.loc (fun m => (F2.ox.1 _ m).1 rfl) eL (.inl tL) (fun _ => ns_tag nL) kept sm
  have cellK : ∀ c v, c ≠ env.locals → s2.heap.IsCell c v → s3.heap.IsCell c v := fun c v hc ⟨o, ho, hd⟩ => ⟨o, kept c o hc ho, hd⟩
  have F3 : Frm w (X.grow ps) env s₀ s3 ρ := by
    refine ⟨I3, fun y b hy => ?_, X3, F2.hi, F2.ox, F2.loc, ⟨m, nL⟩, fun y c ec => let ⟨h1, h2, z, hz⟩ := F2.cell y c ec; ⟨h1, h2, z, cellK c z h2 hz⟩, F2.apart⟩
    obtain ⟨z, hz, bz⟩ := F2.H y b hy
    refine ⟨z, Rep.up l3 _ _ hz, ?_⟩
    rcases bz with ⟨a, h9, m', nm, em⟩ | ⟨a, c, ec, h9, hc⟩
    · refine .inl ⟨a, h9, m, nL, ?_⟩
      have : m' y = m y := by
        obtain ⟨o1, es1, ep1, e1, d1, _, f1⟩ := nm
        obtain ⟨o2, es2, ep2, e2, d2, _, f2⟩ := n
        rw [e1] at e2; cases e2
        rw [d1] at d2; cases d2
        rw [← f1, ← f2]
      rw [← this]; exact em
    · exact .inr ⟨a, c, ec, h9, cellK c _ (F2.cell y c ec).2.1 hc⟩
  exact st_any c.hE c.hC F3 hkl r3 fun s4 F4 S4 => k ts' ps pp pw s4 F4
end Vl
end
section
open PySem PySem.W PySem.W.X PyProof.Rows
set_option Elab.async false
set_option maxRecDepth 100000
set_option maxHeartbeats 4000000
set_option linter.unusedVariables false
namespace Vl
open Mine
variable {w : World} {X : Av} {φ : Around → Prop} {K : List (Str × NameKind)} {ρ : List (Str × V)}
def csOf (sc : List Int) : List Int := (sc.take 12).map (·.fmod 4096)
def drOf (sc : List Int) : List Int := csOf sc ++ [5, 9, 1, 3, 13, 22, 7]
def tk (ts : List (Int × Int × Int)) (k : Nat) : Int × Int × Int := (ts[k]?).getD (0, 0, 0)
theorem tk_at {ts : List (Int × Int × Int)} {k : Nat} (h : k < ts.length) : ts[k]? = some (tk ts k) := by
  unfold tk; rw [List.getElem?_eq_getElem h]; rfl
theorem tk_mem {ts : List (Int × Int × Int)} {k : Nat} (h : k < ts.length) : tk ts k ∈ ts := List.mem_of_getElem? (tk_at h)
theorem rks_tk (fl : Int) (ts : List (Int × Int × Int)) : rks fl (fun k => (tk ts k).1) (fun k => (tk ts k).2.1) ts.length = ts.map (rkT fl) := by
  apply List.ext_getElem?
  intro i
  unfold rks rkT
  by_cases h : i < ts.length
  · rw [List.getElem?_map, List.getElem?_map, List.getElem?_range h, tk_at h]; rfl
  · rw [List.getElem?_eq_none (by simp; omega), List.getElem?_eq_none (by simp; omega)]
theorem row_tri (c0 c1 : Nat → Int) (n : Nat) : rowV c0 c1 n = ((List.range n).map fun (k : Nat) => (c0 k, c1 k, (k : Int))).map tri := by
  unfold rowV; rw [List.map_map]; rfl
structure Nums (sc : List Int) (n : Nat) (T size : Int) (lo hi : Nat) (fl low : Int) (high l3 : Nat) (c0 c1 : Nat → Int) : Prop where
  len : (drOf sc).length = n
  sum : (csOf sc).sum = T
  col : ∀ k, k < n → ∃ v, (drOf sc)[k]? = some v ∧ v.fmod 3 = c0 k ∧ (v.fdiv 3).fmod 3 = c1 k
  n7 : 7 ≤ n ∧ n ≤ 19
  eSize : 1 + T.fmod 50 = size
  pos : 0 < size
  eLo : T.fmod ((n : Int).fdiv 2) = (lo : Int)
  lon : lo ≤ n
  eHi : (n : Int) - (T.fdiv 7).fmod ((n : Int).fdiv 2) = (hi : Int)
  hin : hi ≤ n
  b0 : ∀ k, k < n → 0 ≤ c0 k ∧ c0 k ≤ 2
  b1 : ∀ k, k < n → 0 ≤ c1 k ∧ c1 k ≤ 2
  k1 : 0 ≤ T.fmod 3 ∧ T.fmod 3 ≤ 2
  k2 : 0 ≤ (T + 1).fmod 3 ∧ (T + 1).fmod 3 ≤ 2
  k3 : 0 ≤ (T.fdiv 3).fmod 3 ∧ (T.fdiv 3).fmod 3 ≤ 2
  eFl : (T.fdiv 5).fmod 4 = fl
  bfl : 0 ≤ fl ∧ fl ≤ 3
  eLow : (T + 1).fmod 5 - 1 = low
  low1 : -1 ≤ low
  eHigh : (n : Int) - (T.fdiv 15).fmod ((n : Int) + 1) = (high : Int)
  highn : high ≤ n
  eL3 : (T.fdiv 11).fmod ((n : Int) + 1) = (l3 : Int)
  h2 : (n : Int).fdiv 2 ≠ 0
  h1 : (n : Int) + 1 ≠ 0
theorem law_runs {env : Env} {A : Around} {s₀ : Shared} {Q : Flow → Shared → Prop} {E : Value → Shared → Prop} {sc : List Int} (hsc : sc.length ≤ 63) {n : Nat} {T size : Int} {lo hi : Nat} {fl low : Int} {high l3 : Nat} {c0 c1 : Nat → Int}
    (N : Nums sc n T size lo hi fl low high l3 c0 c1) {d : Nat} (hd : d < 390) (hφ : ∀ A, φ A → Lv d A) (c : Ctx φ ks94 env A) (hco : env.code = .ref 93) (hT : X.tabs) (h91 : X.B 91 = some (tabObj #[]))
    (hneg : ∀ ps (d0 d1 : Nat → Int), low < 0 → Does w φ (X.grow ps) (.ref 89) [.list (rowV d0 d1 n), .int fl, .list [.int (c0 0), .int (c1 0), .int (-1)], .int low, .int (high : Int), .int size] (.bool true))
    (k : ∀ ps u s', Inv w (X.grow ps) s' → Ext s₀ s' → Rep (X.grow ps) s'.heap (.bool true) u → Q (.ret u) s') :
    Runs w X env A s₀ Q E (ps94.zip [.own sc]) bd94 := by
  have hn7 := N.n7
  have hlen : (Is (drOf sc)).length = n := by unfold Is; rw [List.length_map, N.len]
  have hcs : (csOf sc).length ≤ 12 := by unfold csOf; rw [List.length_map, List.length_take]; omega
  have LvA : Lv d A := hφ A c.hP
  delta bd94
  -- cells
  refine runs_cons c (thru_compO (xs := sc.take 12) V.int (fun _ => true) (fun x => .int (x.fmod 4096)) (fun x => [(nX, .int x)]) (out := Is (csOf sc)) rfl (by rw [filter_all]; simp [Is, csOf, Function.comp_def])
    rfl rfl rfl (src_list (ev_sliceOwn (n := 12) (ev_name rfl rfl) ev_int (by omega) (fun _ _ => rfl)) rfl) rfl rfl (fun _ _ => rfl) (fun x _ D => bind_name rfl) (fun x _ D => trf_nil)
    (fun x _ _ D => ev_bin (ev_name rfl rfl) ev_int (op_mod (by decide))) (by rw [List.length_take]; omega)) ?_
  -- total
  refine runs_cons c (thru_assign (ev_eq (ev_callB rfl rfl (gl_sum w) (fun _ => rfl) (fun _ _ => rfl) (evl_cons (ev_name rfl rfl) evl_nil (fun _ => rfl)) does_sum) (b := .int T) (by rw [N.sum])) rfl (fun _ _ => rfl)) ?_
  -- drawn
  refine runs_cons c (thru_assign (ev_eq (ev_bin (ev_name rfl rfl) (ev_list (evl_cons ev_int (evl_cons ev_int (evl_cons ev_int (evl_cons ev_int (evl_cons ev_int (evl_cons ev_int (evl_cons ev_int evl_nil (fun _ => rfl)) (fun _ => rfl)) (fun _ => rfl)) (fun _ => rfl)) (fun _ => rfl)) (fun _ => rfl)) (fun _ => rfl)) (by simp))
    (op_cat (xs := Is (csOf sc)) (by unfold Is; rw [List.length_map]; omega) (by simp))) (b := .list (Is (drOf sc))) (by simp [drOf, Is])) rfl (swaps_cell rfl)) ?_
  -- n
  refine runs_cons c (thru_assign (ev_eq (ev_callB rfl rfl (gl_len w) (fun _ => rfl) (fun _ _ => rfl) (evl_cons (ev_name rfl rfl) evl_nil (fun _ => rfl)) (does_len (by rw [hlen]; omega))) (b := .int (n : Int)) (by rw [hlen])) rfl (fun _ _ => rfl)) ?_
  -- size
  refine runs_cons c (thru_assign (ev_eq (ev_bin ev_int (ev_bin (ev_name rfl rfl) ev_int (op_mod (by decide))) op_add) (b := .int size) (by rw [N.eSize])) rfl (fun _ _ => rfl)) ?_
  -- row
  refine runs_cons c (thru_compO (xs := List.range n) (fun (k : Nat) => .int (k : Int)) (fun _ => true) (fun (k : Nat) => .list [.int (c0 k), .int (c1 k), .int (k : Int)]) (fun (k : Nat) => [(nK, .int (k : Int))]) (out := rowV c0 c1 n) rfl (by rw [filter_all]; rfl)
    rfl rfl rfl (src_range rfl rfl (gl_range w) (fun _ => rfl) (ev_name rfl rfl) (by omega)) rfl rfl (fun _ _ => rfl) (fun k _ D => bind_name rfl) (fun k _ D => trf_nil)
    (fun k hk _ D => by
      have hk' : k < n := List.mem_range.mp hk
      obtain ⟨v, hv, e0, e1⟩ := N.col k hk'
      have hv' : (Is (drOf sc))[((k : Nat) : Int).toNat]? = some (.int v) := by unfold Is; rw [Int.toNat_natCast, List.getElem?_map, hv]; rfl
      rw [← e0, ← e1]
      exact ev_list (evl_cons (ev_bin (ev_item (ev_name rfl rfl) (ev_name rfl rfl) (by omega) (by omega) hv' (fun _ _ => rfl)) ev_int (op_mod (by decide)))
        (evl_cons (ev_bin (ev_bin (ev_item (ev_name rfl rfl) (ev_name rfl rfl) (by omega) (by omega) hv' (fun _ _ => rfl)) ev_int (op_div (by decide) (by decide))) ev_int (op_mod (by decide)))
        (evl_cons (ev_name rfl rfl) evl_nil (fun _ => rfl)) (fun _ => rfl)) (fun _ => rfl)) (by simp)) (by rw [List.length_range]; omega)) ?_
  -- lo, hi
  refine runs_cons c (thru_assign (ev_eq (ev_bin (ev_name rfl rfl) (ev_bin (ev_name rfl rfl) ev_int (op_div (by decide) (by decide))) (op_mod N.h2)) (b := .int (lo : Int)) (by rw [N.eLo])) rfl (fun _ _ => rfl)) ?_
  refine runs_cons c (thru_assign (ev_eq (ev_bin (ev_name rfl rfl) (ev_bin (ev_bin (ev_name rfl rfl) ev_int (op_div (by decide) (by decide))) (ev_bin (ev_name rfl rfl) ev_int (op_div (by decide) (by decide))) (op_mod N.h2)) op_sub) (b := .int (hi : Int)) (by rw [N.eHi])) rfl (fun _ _ => rfl)) ?_
  -- parted
  refine runs_skip c (tr_not (tr_val (ev_callF rfl rfl (gl_law_parted w) rfl rfl (fun _ => rfl) (evl_cons (ev_name rfl rfl) (evl_cons (ev_bin (ev_name rfl rfl) ev_int (op_mod (by decide))) (evl_cons (ev_name rfl rfl) (evl_cons (ev_name rfl rfl) (evl_cons (ev_name rfl rfl) evl_nil (fun _ => rfl)) (fun _ => rfl)) (fun _ => rfl)) (fun _ => rfl)) (fun _ => rfl))
    ((does_parted hT (d := d) (by omega) (by omega) N.b0 N.b1 N.k1 N.pos N.hin).mono hφ)) (fun _ _ => rfl))) rfl ?_
  refine runs_skip c (tr_not (tr_val (ev_callF rfl rfl (gl_law_parted w) rfl rfl (fun _ => rfl) (evl_cons (ev_name rfl rfl) (evl_cons (ev_bin (ev_bin (ev_name rfl rfl) ev_int op_add) ev_int (op_mod (by decide))) (evl_cons (ev_name rfl rfl) (evl_cons (ev_name rfl rfl) (evl_cons (ev_name rfl rfl) evl_nil (fun _ => rfl)) (fun _ => rfl)) (fun _ => rfl)) (fun _ => rfl)) (fun _ => rfl))
    ((does_parted hT (d := d) (by omega) (by omega) N.b0 N.b1 N.k2 N.pos N.hin).mono hφ)) (fun _ _ => rfl))) rfl ?_
  refine runs_skip c (tr_not (tr_val (ev_callF rfl rfl (gl_law_parted w) rfl rfl (fun _ => rfl) (evl_cons (ev_name rfl rfl) (evl_cons ev_int (evl_cons (ev_name rfl rfl) (evl_cons (ev_name rfl rfl) (evl_cons (ev_name rfl rfl) evl_nil (fun _ => rfl)) (fun _ => rfl)) (fun _ => rfl)) (fun _ => rfl)) (fun _ => rfl))
    ((does_parted hT (d := d) (by omega) (by omega) N.b0 N.b1 (kind := 1) (by decide) N.pos N.lon).mono hφ)) (fun _ _ => rfl))) rfl ?_
  -- falls
  refine runs_cons c (thru_assign (ev_eq (ev_bin (ev_bin (ev_name rfl rfl) ev_int (op_div (by decide) (by decide))) ev_int (op_mod (by decide))) (b := .int fl) (by rw [N.eFl])) rfl (swaps_cell rfl)) ?_
  -- laid
  refine runs_laid (d := d) (by omega) c LvA hco h91 (ts := (List.range n).map fun (k : Nat) => (c0 k, c1 k, (k : Int))) (fl := fl) (by rw [← row_tri]; rfl) rfl (by rw [List.length_map, List.length_range]; omega) rfl rfl rfl fun ts ps pp pw => ?_
  have hts : ts.length = n := by rw [pp.length_eq, List.length_map, List.length_range]
  have hb : ∀ k, k < n → (0 ≤ (tk ts k).1 ∧ (tk ts k).1 ≤ 2) ∧ 0 ≤ (tk ts k).2.1 ∧ (tk ts k).2.1 ≤ 2 := fun k hk => by
    have := pp.mem_iff.mp (tk_mem (ts := ts) (k := k) (by omega))
    obtain ⟨j, hj, e⟩ := List.mem_map.mp this
    rw [← e]
    exact ⟨N.b0 j (List.mem_range.mp hj), N.b1 j (List.mem_range.mp hj)⟩
  have hs : (rks fl (fun k => (tk ts k).1) (fun k => (tk ts k).2.1) n).Pairwise (· ≤ ·) := by rw [← hts, rks_tk]; exact pw
  have hTg : (X.grow ps).tabs := fun b m => by
    show (if b = 91 then some (tabObj ps) else X.B b) = none
    rw [if_neg (fun q => by subst q; simp at m)]
    exact hT b m
  -- ordered
  refine runs_cons c (thru_compO (xs := List.range n) (fun (k : Nat) => .int (k : Int)) (fun _ => true) (fun (k : Nat) => .list [.int (tk ts k).1, .int (tk ts k).2.1, .int (k : Int)]) (fun (k : Nat) => [(nK, .int (k : Int))]) (out := rowV (fun k => (tk ts k).1) (fun k => (tk ts k).2.1) n) rfl (by rw [filter_all]; rfl)
    rfl rfl rfl (src_range rfl rfl (gl_range w) (fun _ => rfl) (ev_name rfl rfl) (by omega)) rfl rfl (fun _ _ => rfl) (fun k _ D => bind_name rfl) (fun k _ D => trf_nil)
    (fun k hk _ D => by
      have hk' : k < n := List.mem_range.mp hk
      have hv : (ts.map tri)[((k : Nat) : Int).toNat]? = some (tri (tk ts k)) := by rw [Int.toNat_natCast, List.getElem?_map, tk_at (by omega)]; rfl
      exact ev_list (evl_cons (ev_item (ev_item (ev_name rfl rfl) (ev_name rfl rfl) (by omega) (by omega) hv (fun _ _ => rfl)) ev_int (by decide) (by decide) rfl (fun _ _ => rfl))
        (evl_cons (ev_item (ev_item (ev_name rfl rfl) (ev_name rfl rfl) (by omega) (by omega) hv (fun _ _ => rfl)) ev_int (by decide) (by decide) rfl (fun _ _ => rfl))
        (evl_cons (ev_name rfl rfl) evl_nil (fun _ => rfl)) (fun _ => rfl)) (fun _ => rfl)) (by simp)) (by rw [List.length_range]; omega)) ?_
  -- low, high
  refine runs_cons c (thru_assign (ev_eq (ev_bin (ev_bin (ev_bin (ev_name rfl rfl) ev_int op_add) ev_int (op_mod (by decide))) ev_int op_sub) (b := .int low) (by rw [N.eLow])) rfl (fun _ _ => rfl)) ?_
  refine runs_cons c (thru_assign (ev_eq (ev_bin (ev_name rfl rfl) (ev_bin (ev_bin (ev_name rfl rfl) ev_int (op_div (by decide) (by decide))) (ev_bin (ev_name rfl rfl) ev_int op_add) (op_mod N.h1)) op_sub) (b := .int (high : Int)) (by rw [N.eHigh])) rfl (fun _ _ => rfl)) ?_
  -- counted
  refine runs_skip c (tr_not (tr_val (ev_callF rfl rfl (gl_law_counted w) rfl rfl (fun _ => rfl) (evl_cons (ev_name rfl rfl) (evl_cons (ev_name rfl rfl) (evl_cons (ev_list (evl_cons ev_int (evl_cons ev_int (evl_cons (ev_neg ev_int) evl_nil (fun _ => rfl)) (fun _ => rfl)) (fun _ => rfl)) (by simp)) (evl_cons ev_int (evl_cons ev_none (evl_cons (ev_name rfl rfl) evl_nil (fun _ => rfl)) (fun _ => rfl)) (fun _ => rfl)) (fun _ => rfl)) (fun _ => rfl)) (fun _ => rfl))
    ((does_countedn hTg (d := d) (by omega) (n := n) (by omega) (fun k hk => (hb k hk).1) (fun k hk => (hb k hk).2) (q0 := 1) (q1 := 1) N.bfl (by decide) (by decide) hs (lo := 0)).mono hφ)) (fun _ _ => rfl))) rfl ?_
  have r0 : (rowV c0 c1 n)[(0 : Int).toNat]? = some (.list [.int (c0 0), .int (c1 0), .int ((0 : Nat) : Int)]) := by
    show (rowV c0 c1 n)[0]? = _
    unfold rowV; rw [List.getElem?_map, List.getElem?_range (by omega)]; rfl
  refine runs_skip c (tr_not (tr_val (ev_callF rfl rfl (gl_law_counted w) rfl rfl (fun _ => rfl) (evl_cons (ev_name rfl rfl) (evl_cons (ev_name rfl rfl) (evl_cons (ev_list (evl_cons (ev_item (ev_item (ev_name rfl rfl) ev_int (by decide) (by decide) r0 (fun _ _ => rfl)) ev_int (by decide) (by decide) rfl (fun _ _ => rfl)) (evl_cons (ev_item (ev_item (ev_name rfl rfl) ev_int (by decide) (by decide) r0 (fun _ _ => rfl)) ev_int (by decide) (by decide) rfl (fun _ _ => rfl)) (evl_cons (ev_neg ev_int) evl_nil (fun _ => rfl)) (fun _ => rfl)) (fun _ => rfl)) (by simp)) (evl_cons (ev_name rfl rfl) (evl_cons (ev_name rfl rfl) (evl_cons (ev_name rfl rfl) evl_nil (fun _ => rfl)) (fun _ => rfl)) (fun _ => rfl)) (fun _ => rfl)) (fun _ => rfl)) (fun _ => rfl))
    (show Does w φ (X.grow ps) (.ref 89) [.list (rowV (fun k => (tk ts k).1) (fun k => (tk ts k).2.1) n), .int fl, .list [.int (c0 0), .int (c1 0), .int (-1)], .int low, .int (high : Int), .int size] (.bool true) from by
      by_cases h : low < 0
      · exact hneg ps _ _ h
      · obtain ⟨l, rfl⟩ : ∃ l : Nat, low = (l : Int) := ⟨low.toNat, by omega⟩
        exact (does_counted hTg (d := d) (by omega) (n := n) (by omega) (fun k hk => (hb k hk).1) (fun k hk => (hb k hk).2) N.bfl (N.b0 0 (by omega)) (N.b1 0 (by omega)) hs N.highn).mono hφ)) (fun _ _ => rfl))) rfl ?_
  refine runs_ret c (ev_callF rfl rfl (gl_law_counted w) rfl rfl (fun _ => rfl) (evl_cons (ev_name rfl rfl) (evl_cons (ev_name rfl rfl) (evl_cons (ev_list (evl_cons (ev_bin (ev_name rfl rfl) ev_int (op_mod (by decide))) (evl_cons (ev_bin (ev_bin (ev_name rfl rfl) ev_int (op_div (by decide) (by decide))) ev_int (op_mod (by decide))) (evl_cons (ev_neg ev_int) evl_nil (fun _ => rfl)) (fun _ => rfl)) (fun _ => rfl)) (by simp)) (evl_cons (ev_eq (ev_bin (ev_bin (ev_name rfl rfl) ev_int (op_div (by decide) (by decide))) (ev_bin (ev_name rfl rfl) ev_int op_add) (op_mod N.h1)) (b := .int (l3 : Int)) (by rw [N.eL3])) (evl_cons ev_none (evl_cons (ev_name rfl rfl) evl_nil (fun _ => rfl)) (fun _ => rfl)) (fun _ => rfl)) (fun _ => rfl)) (fun _ => rfl)) (fun _ => rfl))
    ((does_countedn hTg (d := d) (by omega) (n := n) (by omega) (fun k hk => (hb k hk).1) (fun k hk => (hb k hk).2) N.bfl N.k1 N.k3 hs (lo := l3)).mono hφ)) (k ps)
end Vl
end
section
open PySem PySem.W PySem.W.X PyProof.Rows
set_option Elab.async false
set_option maxRecDepth 100000
set_option maxHeartbeats 4000000
set_option linter.unusedVariables false
namespace Vl
open Mine
variable {w : World} {X : Av} {φ : Around → Prop} {K : List (Str × NameKind)} {ρ : List (Str × V)}
def noTab (n : Nat) : Bool := !tabs.contains n
noncomputable def Kf (P : Params) : Frag := (Mine.K P).filter fun p => noTab p.1
theorem kt_of (P : Params) : kt P = KT.of (Kf P) := by kernel_rfl
theorem keys_K (P : Params) : Mine.addrs = (Mine.K P).map (·.1) := by kernel_rfl
theorem all_of {h : Heap} : ∀ {l : Frag}, (l.map (·.1)).Nodup → (∀ a o, l.lookup a = some o → h.get? a = some o) → AllIn h l
  | [], _, _ => True.intro
  | (a, o) :: l, nd, k => by
    obtain ⟨h1, h2⟩ := List.nodup_cons.mp nd
    refine ⟨k a o (by rw [List.lookup_cons, beq_self_eq_true]), all_of h2 fun b ob e => k b ob ?_⟩
    rw [List.lookup_cons]
    cases q : b == a with
    | true =>
      have : b = a := by simpa using q
      subst this
      exact absurd (List.mem_map.mpr ⟨(b, ob), mem_of_lookupK e, rfl⟩) h1
    | false => exact e
theorem lookup_filter {q : Nat → Bool} {a : Nat} {o : Obj} : ∀ {l : Frag}, (l.filter fun p => q p.1).lookup a = some o → l.lookup a = some o
  | [], e => e
  | (b, x) :: l, e => by
    rw [List.lookup_cons]
    cases z : a == b with
    | true =>
      have : a = b := by simpa using z
      subst this
      rw [List.filter_cons] at e
      cases hq : q a with
      | true => simp only [hq, if_true] at e; rw [List.lookup_cons, z] at e; exact e
      | false =>
        simp only [hq, Bool.false_eq_true, if_false] at e
        have := (List.mem_filter.mp (mem_of_lookupK e)).2
        rw [hq] at this; cases this
    | false =>
      refine lookup_filter (q := q) (l := l) ?_
      rw [List.filter_cons] at e
      split at e
      · rw [List.lookup_cons, z] at e; exact e
      · exact e
structure HoldsK (h : Heap) (t : KT) : Prop where
  v : KT.Holds h 1 0 t
theorem in_gen {l : Frag} {h : Heap} (q : Nat → Bool) (nd : (l.map (·.1)).Nodup) (KX : l.In h) : HoldsK h (KT.of (l.filter fun p => q p.1)) :=
  ⟨holds_of (all_of (nd.sublist (List.filter_sublist.map _)) fun a o e => KX a o (lookup_filter e))⟩
theorem nd_addrs : Mine.addrs.Nodup := by decide
theorem kt_gen {h : Heap} {t t' : KT} (e : t = t') (H : HoldsK h t') : KtIn t h := by
  subst e
  exact fun a o q => kt_at H.v q
theorem nd_K (P : Params) : ((Mine.K P).map (·.1)).Nodup := by
  have := nd_addrs
  rw [keys_K P] at this
  exact this
theorem holds_Kf {h : Heap} (KX : (Mine.K w.params).In h) : HoldsK h (KT.of (Kf w.params)) := by
  unfold Kf
  exact in_gen noTab (nd_K w.params) KX
theorem kt_in {h : Heap} (KX : (Mine.K w.params).In h) : KtIn (kt w.params) h := kt_gen (kt_of w.params) (holds_Kf KX)
theorem tab_in {h : Heap} (KX : (Mine.K w.params).In h) : h.get? 34 = some (tabObj #[]) ∧ h.get? 48 = some (tabObj #[]) ∧ h.get? 62 = some (tabObj #[]) ∧ h.get? 91 = some (tabObj #[]) :=
  ⟨KX _ _ (by kernel_rfl), KX _ _ (by kernel_rfl), KX _ _ (by kernel_rfl), KX _ _ (by kernel_rfl)⟩
def tabs4 : List (Addr × Addr) := [(38, 34), (52, 48), (66, 62), (93, 91)]
theorem tabs_at {h : Heap} (KX : (Mine.K w.params).In h) : TabsAt tabs4 h := by
  have I := kt_in KX
  obtain ⟨t0, t1, t2, t3⟩ := tab_in KX
  intro q hq
  simp only [tabs4, List.mem_cons, List.not_mem_nil, or_false] at hq
  rcases hq with rfl | rfl | rfl | rfl
  · exact ⟨⟨_, _, _, _, _, _, _, _, _, I _ _ rfl, rfl, rfl, rfl, rfl, rfl, rfl, rfl, rfl, by decide⟩, t0⟩
  · exact ⟨⟨_, _, _, _, _, _, _, _, _, I _ _ rfl, rfl, rfl, rfl, rfl, rfl, rfl, rfl, rfl, by decide⟩, t1⟩
  · exact ⟨⟨_, _, _, _, _, _, _, _, _, I _ _ rfl, rfl, rfl, rfl, rfl, rfl, rfl, rfl, rfl, by decide⟩, t2⟩
  · exact ⟨⟨_, _, _, _, _, _, _, _, _, I _ _ rfl, rfl, rfl, rfl, rfl, rfl, rfl, rfl, rfl, by decide⟩, t3⟩
theorem grown_all {ps : Array Value} {s : Shared} (I : Inv w (X.grow ps) s) : GrownAll tabs4 s.heap := by
  refine ⟨?_, ?_, ?_, ⟨ps, I.bs 91 _ (by show (if (91 : Nat) = 91 then some (tabObj ps) else X.B 91) = _; rw [if_pos rfl])⟩, True.intro⟩
  · rcases I.k with e | ⟨a, τ, f, _⟩
    · exact ⟨_, e⟩
    · exact ⟨_, f.1⟩
  · rcases I.r with e | ⟨_, _, _, _, _, e, _⟩ <;> exact ⟨_, e⟩
  · rcases I.n with e | ⟨_, _, _, _, _, e, _⟩ <;> exact ⟨_, e⟩
end Vl
end
section
open PySem PySem.W PySem.W.X PyProof.Rows
set_option Elab.async false
set_option maxRecDepth 100000
set_option maxHeartbeats 4000000
set_option linter.unusedVariables false
namespace Vl
open Mine
variable {w : World} {X : Av} {φ : Around → Prop} {K : List (Str × NameKind)} {ρ : List (Str × V)}
/-- frames on the stack are those noted -/
def Fr' (d : Nat) (X : Av) (A : Around) : Prop := Lv d A ∧ A.frames = some X.fr
/-- all but the frames on the stack -/
def baseOf (X : Av) (h : Heap) : Heap := hideAll h (X.fr.filterMap (·.frame))
theorem funs_of {h base : Heap} : ∀ {l : List Env}, (∀ env ∈ l, env.scope.kind ≠ .module ∧ ∃ L o, env.frame = some L ∧ base.get? L = none ∧ h.get? L = some o ∧ ∀ vs, o.data ≠ .fields vs) → h.FunFrames base l
  | [], _ => True.intro
  | env :: l, k => ⟨(k env List.mem_cons_self).1, (k env List.mem_cons_self).2, funs_of fun e he => k e (List.mem_cons_of_mem _ he)⟩
theorem no_fields {o : Obj} (t : tagOf o = 3) : ∀ vs, o.data ≠ .fields vs := fun vs q => by
  unfold tagOf at t
  rw [q] at t
  simp at t
theorem Inv.funs {s : Shared} (I : Inv w X s) {h : Heap} (k : ∀ b o, s.heap.get? b = some o → h.get? b = some o) : h.FunFrames (baseOf X s.heap) X.fr :=
  funs_of fun env he => let ⟨h1, L, o, h2, h3, h4, h5, h6⟩ := I.f env he
    ⟨h1, L, o, h2, hideAll_none _ (List.mem_filterMap.mpr ⟨env, he, h2⟩), k L o h5, no_fields h6⟩
def nVE : Str := ⟨#[86, 97, 108, 117, 101, 69, 114, 114, 111, 114]⟩
def msg : Str := ⟨#[108, 111, 32, 109, 117, 115, 116, 32, 98, 101, 32, 110, 111, 110, 45, 110, 101, 103, 97, 116, 105, 118, 101]⟩
theorem gl_VE (w : World) : Glb w nVE (.type "ValueError") := .inr ⟨by kernel_rfl, by kernel_rfl⟩
/-- a bisect that is refused -/
theorem bneg {d : Nat} (hd : d < 590) {A : Around} {s : Shared} {R : Result → Shared → Prop} (hA : Fr' d X A) (I : Inv w X s) {f : Addr} {o : Obj} {fd : FuncData} {args : Args} {binds : List (Str × Value)} {p1 p2 p3 p4 p5 p6 p7 p8 : Pos} {k1 k2 : Nat} {rest : List Stmt}
    (ho : (kt w.params).get f = some o) (hdt : o.data = .func fd) (hcode : ∃ c o vs t, fd.code = .ref c ∧ (kt w.params).get c = some o ∧ o.data = .fields vs ∧ vs[1]? = some (.str fd.qualname t))
    (hbody : fd.body = .stmts (.If (.Compare (.Name nLo p1) [.Lt] [.Constant (.int 0) k1 p2] p3) [.Raise (some (.Call (.Name nVE p4) [.Constant (.str msg) k2 p5] [] p6)) none p7] [] p8 :: rest))
    (hbind : BindsTo s fd args binds) (hcell : ∀ x ∈ fd.scope.names, x.2 ≠ .cell) (hloc : ∀ x ∈ binds, fd.scope.names.lookup x.1 = some .local)
    (hk1 : fd.scope.names.lookup nLo = some .local) (hk2 : fd.scope.names.lookup nVE = some .globalImplicit) (hg : fd.globals = mainGlobals) (hb : fd.builtins = builtinsNs) (hco : fd.scope.isCoroutine = false) (hgen : fd.scope.isGenerator = false) (hkind : fd.scope.kind = .function)
    {lo : Int} {tl : Tok} (hlo : binds.reverse.lookup nLo = some (.int lo tl)) (hneg : lo < 0)
    (k : ∀ e t tk s', Heap.FlyingW (baseOf X s.heap) X.fr e (.type "ValueError") (.ref t) s'.heap → s'.heap.TupAt t [.str msg tk] → (baseOf X s.heap).get? t = none → s.heap.UpToSlots s'.heap → Same s s' → R (.error (.ref e)) s') :
    codeAny (model prg w) A (.call (.ref f) args) R s := by
  obtain ⟨c, oc, vs, tq, e1, e2, e3, e4⟩ := hcode
  refine codeAny_call_def (by have := hA.1.2.1; show A.depth < 1000; omega) (I.kt _ _ ho) hdt (no_lim I) ⟨c, oc, vs, tq, e1, I.kt _ _ e2, e3, e4⟩ hbody hbind hcell hloc (fun h₀ hns kp => ?_) hco hgen hkind
  generalize hsz : s.toks + binds.length = tk0
  have hE : EnvIs fd.scope.names (callEnv fd s.heap.objs.size f) := ⟨rfl, hkind, hg, hb⟩
  have hfr : (callEnv fd s.heap.objs.size f).frame = some s.heap.objs.size := rfl
  have hL : (callEnv fd s.heap.objs.size f).locals = s.heap.objs.size := rfl
  generalize callEnv fd s.heap.objs.size f = env at hE hfr hL ⊢
  have sm : Same s { s with heap := h₀, toks := tk0 } := ⟨rfl, rfl⟩
  have I1 : Inv w X { s with heap := h₀, toks := tk0 } := I.of kp
  have I1' : Inv w ⟨X.l, h₀.get?, []⟩ { s with heap := h₀, toks := tk0 } := ⟨I1.kt, I1.n, I1.k, I1.r, I1.x, fun b o e => e, fun _ h => nomatch h⟩
  have lv := Lv.deeper (by omega) A env hA.1 (hA.1.ok (by omega))
  have H1 : Vl.Has ⟨X.l, h₀.get?, []⟩ env h₀ [(nLo, .int lo)] := fun x v e => by
    rw [List.lookup_cons] at e
    cases q : x == nLo with
    | true =>
      rw [q] at e; cases e
      have : x = nLo := by simpa using q
      subst this
      exact ⟨_, ⟨tl, rfl⟩, .inl ⟨(hE.k _).trans hk1, by rw [hL]; exact I.high, _, by rw [hL]; exact hns, hlo⟩⟩
    | false => rw [q] at e; cases e
  have tr : Tr w (Lv (d + 1)) ⟨X.l, h₀.get?, []⟩ fd.scope.names [(nLo, .int lo)] (.Compare (.Name nLo p1) [.Lt] [.Constant (.int 0) k1 p2] p3) (decide (lo < 0)) := tr_cmp (ev_name rfl rfl) ev_int cmp_lt rfl
  refine wpAny_execs_cons (wpAny_If (tr env (A.deeper env) _ _ _ lv.1 lv.2 hE I1' H1 fun s2 I2 X2 => ?_))
  rw [decide_eq_true hneg]
  refine wpAny_execs_cons (wpAny_Raise_call F.excCall_ValueError F.excRaise_ValueError lv.2.hd rfl (glob_wp hE I2 hk2 rfl (gl_VE w) ⟨rfl, ?_⟩))
  refine Calls.evalArgs_plain (x := eval (.Constant (.str msg) k2 p5) env) (rest := []) (Calls.spliced_cons (Calls.Constant_str (Calls.spliced_nil ⟨rfl, by show (1 : Nat) ≤ sizeLine; unfold sizeLine; omega, fun h' e hm => ?_⟩)))
  have all : ∀ b o, s.heap.get? b = some o → s2.heap.get? b = some o := fun b o e => I2.bs b o (kp b o e)
  obtain ⟨oL, eL, tL⟩ := ns_tag hns
  have nn : s.heap.get? s.heap.objs.size = none := get_none (Nat.le_refl _)
  have hn0 : (baseOf X s.heap).get? s.heap.objs.size = none := by
    cases q : (baseOf X s.heap).get? s.heap.objs.size with
    | none => rfl
    | some o => rw [of_hideAll _ q] at nn; cases nn
  refine wpAny_leaves_madeW (base := baseOf X s.heap) (h := s2.heap) (outer := X.fr) (L := s.heap.objs.size) (cls := .type "ValueError") (Around.frames_deeper hA.2) hfr (fun b o e => all b o (of_hideAll _ e))
    ⟨by rw [hE.kind]; decide, ⟨_, oL, hfr, hn0, I2.bs _ _ eL, no_fields tL⟩, I.funs all⟩ ⟨hm.keeps, hm.new, hm.there⟩ fun h'' t fly tup tn up => ?_
  refine k e t _ _ fly tup tn (Heap.UpToSlots.trans (Heap.UpToSlots.of_keeps fun b o e => hm.keeps b o (all b o e)) up) ?_
  exact ⟨X2.same.1.trans sm.1, X2.same.2.trans sm.2⟩
end Vl
end
section
open PySem PySem.W PySem.W.X PyProof.Rows
set_option Elab.async false
set_option maxRecDepth 100000
set_option maxHeartbeats 4000000
set_option linter.unusedVariables false
namespace Vl
open Mine Lean Meta Elab Tactic
variable {w : World} {X : Av}
def BisNeg (w : World) (X : Av) (d : Nat) (f : Addr) : Prop := ∀ {A : Around} {s : Shared} {R : Result → Shared → Prop} (_ : Fr' d X A) (_ : Inv w X s) (a x h kv : Value) {lo : Int} {tl : Tok} (_ : lo < 0)
    (_ : ∀ e t tk s', Heap.FlyingW (baseOf X s.heap) X.fr e (.type "ValueError") (.ref t) s'.heap → s'.heap.TupAt t [.str msg tk] → (baseOf X s.heap).get? t = none → s.heap.UpToSlots s'.heap → Same s s' → R (.error (.ref e)) s'),
    codeAny (model prg w) A (.call (.ref f) ⟨[a, x, .int lo tl, h], [(nKey, kv)]⟩) R s
theorem bisL_neg {d : Nat} (hd : d < 590) : BisNeg w X d 32 := by
  intro A s R hA I a x h kv lo tl hlo k
  exact bneg hd hA I rfl rfl ⟨_, _, _, _, rfl, rfl, rfl, rfl⟩ rfl (bind32 I.kt a x _ h kv) (show ∀ x ∈ fd32.scope.names, x.2 ≠ .cell by unfold fd32; decide) (by intro y hy; simp only [List.mem_cons, List.not_mem_nil, or_false] at hy; rcases hy with rfl | rfl | rfl | rfl | rfl <;> rfl) rfl rfl rfl rfl rfl rfl rfl rfl hlo k
theorem bisR_neg {d : Nat} (hd : d < 590) : BisNeg w X d 23 := by
  intro A s R hA I a x h kv lo tl hlo k
  exact bneg hd hA I rfl rfl ⟨_, _, _, _, rfl, rfl, rfl, rfl⟩ rfl (bind23 I.kt a x _ h kv) (show ∀ x ∈ fd23.scope.names, x.2 ≠ .cell by unfold fd23; decide) (by intro y hy; simp only [List.mem_cons, List.not_mem_nil, or_false] at hy; rcases hy with rfl | rfl | rfl | rfl | rfl <;> rfl) rfl rfl rfl rfl rfl rfl rfl rfl hlo k
end Vl
end
section
open PySem PySem.W PySem.W.X PyProof.Rows
set_option Elab.async false
set_option maxRecDepth 100000
set_option maxHeartbeats 4000000
set_option linter.unusedVariables false
namespace Vl
open Mine
variable {w : World} {X : Av} {φ : Around → Prop} {K : List (Str × NameKind)} {ρ : List (Str × V)}
theorem tag_of_hard {o : Obj} (h : softO o = false) : tagOf o ≠ 3 := fun t => by rw [soft_of3 t] at h; cases h
theorem base_get {h : Heap} {b : Addr} {o : Obj} (hb : b ∉ X.fr.filterMap (·.frame)) (e : h.get? b = some o) : (baseOf X h).get? b = some o := hideAll_get _ e hb
theorem Inv.fr_at {s : Shared} (I : Inv w X s) {b : Addr} (hb : b ∈ X.fr.filterMap (·.frame)) : 95 ≤ b ∧ X.B b = none ∧ ∃ o, s.heap.get? b = some o ∧ tagOf o = 3 := by
  obtain ⟨env, he, hf⟩ := List.mem_filterMap.mp hb
  obtain ⟨_, L, o, h2, h3, h4, h5, h6⟩ := I.f env he
  rw [hf] at h2; cases h2
  exact ⟨h3, h4, o, h5, h6⟩
/-- the frames on the stack got slots; all else stands -/
theorem Inv.slots {s s' : Shared} (I : Inv w X s) (st : (baseOf X s.heap).StaysIn s'.heap) (up : s.heap.UpToSlots s'.heap) (sm : Same s s') : Inv w X s' ∧ Ext s s' := by
  have kp : ∀ b o, (b < 95 ∨ tagOf o ≠ 3) → s.heap.get? b = some o → s'.heap.get? b = some o := fun b o h e => st b o (base_get (fun m => by
    obtain ⟨h9, _, o', e', t'⟩ := I.fr_at m
    rcases h with h | h
    · exact absurd h9 (Nat.not_le.mpr h)
    · rw [e'] at e; cases e; exact h t') e)
  have al : ∀ b o, s.heap.get? b = some o → ∃ o', s'.heap.get? b = some o' := fun b o e => by
    by_cases m : b ∈ X.fr.filterMap (·.frame)
    · obtain ⟨_, _, o', e', t'⟩ := I.fr_at m
      obtain ⟨sl, e2⟩ := up b o' e' (no_fields t')
      exact ⟨_, e2⟩
    · exact ⟨o, st b o (base_get m e)⟩
  refine ⟨⟨fun b o e => kp b o (.inl (kt_low e)) (I.kt b o e), TabP.up I.n (fun o e => kp _ o (.inl (by decide)) e) (fun b o _ so e => kp b o (.inr (tag_of_hard so)) e), TabK.up I.k (fun o e => kp _ o (.inl (by decide)) e) (fun b o _ so e => kp b o (.inr (tag_of_hard so)) e), TabP.up I.r (fun o e => kp _ o (.inl (by decide)) e) (fun b o _ so e => kp b o (.inr (tag_of_hard so)) e), fun a ha => let ⟨h, o, e⟩ := I.x a ha; ⟨h, al a o e⟩, fun b o e => st b o (base_get (fun m => ?_) (I.bs b o e)), fun en he => ?_⟩,
    ⟨fun b o _ t e => kp b o (.inr t) e, fun L m _ n => up.ns n, al, sm⟩⟩
  · rw [(I.fr_at m).2.1] at e; cases e
  · obtain ⟨h1, L, o, h2, h3, h4, h5, h6⟩ := I.f en he
    obtain ⟨sl, e2⟩ := up L o h5 (no_fields h6)
    exact ⟨h1, L, _, h2, h3, h4, e2, by unfold tagOf at h6 ⊢; exact h6⟩
end Vl
end
section
open PySem PySem.W PySem.W.X PyProof.Rows
set_option Elab.async false
set_option maxRecDepth 100000
set_option maxHeartbeats 4000000
set_option linter.unusedVariables false
namespace Vl
open Mine
variable {w : World} {X : Av} {φ : Around → Prop} {K : List (Str × NameKind)} {ρ : List (Str × V)}
theorem bis_eval {d : Nat} (hd : d < 500) {env : Env} {A : Around} {s : Shared} {Q : Value → Shared → Prop} {E : Value → Shared → Prop} (hA : Fr' d X A) (hE : EnvIs ks74 env) (I : Inv w X s) (H : Has X env s.heap ρ)
    {f : Addr} {o : Obj} {fd : FuncData} (ho : (kt w.params).get f = some o) (hdt : o.data = .func fd) (hB : BisNeg w X d f) {nB : Str} (hk : ks74.lookup nB = some .globalImplicit) (hdb : (nB == ("__debug__" : Str)) = false) (g : Glb w nB (.ref f))
    {told : Addr} {a : Nat → Addr} {τ : Nat → Nat} (hK : Facts s.heap (kRel w told a τ)) {rv hv : V} {sq : List V} {lo : Int} {np p1 p2 p3 p4 p5 p6 p7 kp pos : Pos}
    (h1 : ρ.lookup nRow = some rv) (h2 : ρ.lookup nKey = some (.val (.ref (a 60)))) (h3 : ρ.lookup nSought = some (.list sq)) (h4 : ρ.lookup nLo = some (.int lo)) (h5 : ρ.lookup nHi = some hv) (hlo : lo < 0)
    (k : ∀ e t tk s1 s', (∀ b o, s.heap.get? b = some o → s1.heap.get? b = some o) → Same s s1 → Heap.FlyingW (baseOf X s1.heap) X.fr e (.type "ValueError") (.ref t) s'.heap → s'.heap.TupAt t [.str msg tk] → (baseOf X s1.heap).get? t = none → s1.heap.UpToSlots s'.heap → Same s1 s' → E (.ref e) s') :
    wpAny (model prg w) A (eval (.Call (.Name nB np) [.Name nRow p1, .Call (.Name nKey p2) [.Name nSought p3] [] p4, .Name nLo p5, .Name nHi p6] [⟨some nKey, .Name nKey p7, kp⟩] pos) env) Q E s := by
  refine wpAny_Call_ofName (glob_wp hE I hk hdb g ?_)
  refine callWith_function_kw (o := o) (fd := fd) ?_
  refine evalArgs_kw (x := eval (.Name nRow p1) env) (rest := [(false, eval (.Call (.Name nKey p2) [.Name nSought p3] [] p4) env), (false, eval (.Name nLo p5) env), (false, eval (.Name nHi p6) env)]) rfl ?_
  refine Calls.spliced_cons (name_wp hE H h1 rfl fun u1 r1 => ?_)
  refine Calls.spliced_cons (knew_wp (d := d) (by omega) hA.1 hE I H hK h2 (ev_name h3 rfl) (fun _ => rfl) fun xi dx so s2 k2 sm2 rs ei => ?_)
  have H2 := H.up (Ext.of k2 sm2)
  have I2 := I.of k2
  refine Calls.spliced_cons (name_wp hE H2 h4 rfl fun ul rl => ?_)
  refine Calls.spliced_cons (name_wp hE H2 h5 rfl fun uh rh => ?_)
  refine Calls.spliced_nil ?_
  show wpAny (model prg w) A (evalAll [(do let v ← eval (.Name nKey p7) env; standAt pos; pure v)]) _ E s2
  refine wpAny_evalAll_cons (wpAny_bind (name_wp hE H2 h2 rfl fun uk rk => ?_))
  refine wpAny_bind (wpAny_standAt (wpAny_pure (wpAny_evalAll_nil ⟨⟨I2.kt _ _ ho, hdt⟩, ?_⟩)))
  obtain ⟨tl, rfl⟩ := rl
  exact wpAny_call (hB hA I2 u1 (.ref xi) uh uk hlo fun e t tk s' fly tup tn up sm => k e t tk s2 s' k2 sm2 fly tup tn up sm)
end Vl
end
section
open PySem PySem.W PySem.W.X PyProof.Rows
set_option Elab.async false
set_option maxRecDepth 100000
set_option maxHeartbeats 4000000
set_option linter.unusedVariables false
namespace Vl
open Mine
variable {w : World} {X : Av} {φ : Around → Prop} {K : List (Str × NameKind)} {ρ : List (Str × V)}
theorem ve1 : isSubtype (.type ((Manifest.find? "ValueError").elim "type" fun y => y.metatype)) (.type "tuple") = pure false := isSubtype_of_subB (by decide +kernel)
theorem ve2 : isSubtype (.type "ValueError") (.type "ValueError") = pure true := isSubtype_of_subB (by decide +kernel)
theorem caught {d : Nat} (hd : d < 500) {env : Env} {outer : List Env} {A : Around} {s₀ s1 s' : Shared} {Q : Flow → Shared → Prop} {E : Value → Shared → Prop} (hA : Fr' d X A) (hX : X.fr = env :: outer) (hf : env.frame = some env.locals) (hE : EnvIs ks74 env) (F : Frm w X env s₀ s1 ρ)
    {e t : Addr} {tk : Tok} (fly : Heap.FlyingW (baseOf X s1.heap) X.fr e (.type "ValueError") (.ref t) s'.heap) (tup : s'.heap.TupAt t [.str msg tk]) (up : s1.heap.UpToSlots s'.heap) (sm : Same s1 s') (hn : ρ.lookup nNotes = some (.list [])) {q1 q2 q3 q4 q5 q6 q7 q8 : Pos}
    (kfin : ∀ u s'', Inv w X s'' → Ext s₀ s'' → Rep X s''.heap (.list [.str msg, .list []]) u → Q (.ret u) s'') :
    wpAny (model prg w) A (noteFrame (.ref e) env) (fun _ s2 => wpAny (model prg w) A (setFlight (.ref e) none) (fun _ s3 => wpAny (model prg w) A (handleBy (.ref e) env [.ExceptHandler (some (.Name nVE q1)) (some nErr) [.Return (some (.List [.Call (.Name nStr q2) [.Name nErr q3] [] q4, .Name nNotes q5] q6)) q7] q8]) Q E s3) E s2) E s' := by
  have hfr : A.frames = some (env :: outer) := by rw [hA.2, hX]
  refine wpAny_looks_onW hfr hf (hX ▸ fly) fun h1 held up1 => ?_
  refine wpAny_landsW held fun h2 fly2 up2 => ?_
  obtain ⟨I2, X2⟩ := F.I.slots (s' := { s' with heap := h2 }) fly2.1 (up.trans (up1.trans up2)) ⟨sm.1, sm.2⟩
  refine wpAny_handleBy_builtin_as (X := "ValueError") (T := "ValueError") (b := true) PySem.F.excRaise_ValueError.isExc ve1 ve2 (glob_wp hE I2 rfl rfl (gl_VE w) ⟨rfl, ?_, ?_⟩)
  · obtain ⟨ob, h3, h4⟩ := fly2.there
    exact ⟨ob, h3, h4⟩
  rw [if_pos rfl]
  refine wpAny_setFlight_noneW fly2.1 fly2.2.2.1 fly2.2.2.2.at fun h3 st3 ff3 tr3 nf3 => ?_
  have up3 : s1.heap.UpToSlots h3 := (up.trans (up1.trans up2)).trans fun b o e hn => ⟨o.slots, nf3 b o e hn⟩
  obtain ⟨I3, X3⟩ := F.I.slots (s' := { s' with heap := h3 }) st3 up3 ⟨sm.1, sm.2⟩
  have F3 : Frm w X env s₀ { s' with heap := h3 } ρ := F.up I3 X3
  refine st_name (v := .val (.ref e)) hE F3 rfl rfl fun s4 F4 S4 kp4 sm4 => ?_
  obtain ⟨m4, n4⟩ := F3.ns
  obtain ⟨oL, eL, tL⟩ := ns_tag n4
  have tup3 : (h3).TupAt t [.str msg tk] := ((tup.of_slots up1).of_slots up2).of_slots fun b o e hn => ⟨o.slots, nf3 b o e hn⟩
  have tup4 : s4.heap.TupAt t [.str msg tk] := by
    obtain ⟨o, n, h1, h2, h3⟩ := tup3
    refine ⟨o, n, kp4 t o (fun q => ?_) h1, h2, h3⟩
    rw [q, eL] at h1; cases h1
    unfold tagOf at tL; rw [h3] at tL; simp at tL
  have exc4 : s4.heap.ExcAt e "ValueError" (.ref t) := by
    obtain ⟨oe, vs, T, oT, ts, he, ⟨hc, h0⟩, hd, _⟩ := tr3
    refine ⟨oe, vs, kp4 e oe (fun q => ?_) he, hc, hd, h0⟩
    rw [q, eL] at he; cases he
    exact no_fields tL _ hd
  refine wpAny_execs_cons (wpAny_Return_some (wpAny_List ?_))
  refine spliced_more ?_ rfl
  refine wpAny_Call_ofName (glob_wp hE F4.I rfl rfl (gl_str w) ?_)
  refine PySem.callWith_type rfl ?_
  rw [plain_back (es := []) (fun _ => rfl)]
  refine Calls.evalArgs_plain (Calls.spliced_cons (name_wp hE F4.H (v := .val (.ref e)) rfl rfl fun u ru => ?_))
  obtain rfl : u = .ref e := ru
  refine Calls.spliced_nil ?_
  refine P.str_of_exc_one PySem.F.excStr_ValueError (by have := hA.1.2.2; show A.units + 2 < cLine; unfold cLine; omega) exc4 tup4 ?_
  refine spliced_more (name_wp hE F4.H (v := .list []) (by rw [List.lookup_cons]; exact hn) rfl fun un rn => spliced_none ?_) rfl
  refine ⟨by show (2 : Nat) ≤ sizeLine; unfold sizeLine; omega, ?_⟩
  have Xp := ext_push s4 { cls := .type "list", data := .seq ([.str msg tk, un] : List Value).toArray } s4.toks
  have Ip := inv_push F4.I { cls := .type "list", data := .seq ([.str msg tk, un] : List Value).toArray } s4.toks
  have F5 := F4.up Ip Xp
  have r5 : Rep X (s4.heap.push { cls := .type "list", data := .seq ([.str msg tk, un] : List Value).toArray }) (.list [.str msg, .list []]) (.ref s4.heap.objs.size) :=
    ⟨_, ([.str msg tk, un] : List Value).toArray, 0, rfl, F4.I.high, F4.I.new, by rw [lst_is]; exact Heap.get?_push_size _ rfl, .str msg tk, [un], rfl, ⟨tk, rfl⟩, un, [], rfl, Rep.up Xp.lists _ _ rn, rfl⟩
  obtain ⟨m5, n5⟩ := F5.ns
  obtain ⟨o5, e5, t5⟩ := ns_tag n5
  refine wpAny_nameGoes ((hE.k _).trans rfl) n5 (by rw [hE.kind]; rfl) fun h6 m6 n6 sb => ?_
  obtain ⟨I6, X6, l6, S6⟩ := F5.own (s' := { s4 with heap := h6, toks := s4.toks + 1 }) F5.loc (fun m => (F5.ox.1 _ m).1 rfl) e5 (.inl t5) (fun _ => ns_tag n6) (fun b o hb e => sb.extBut b o hb e) ⟨rfl, rfl⟩
  exact kfin _ _ I6 X6 (Rep.up l6 _ _ r5)
end Vl
end
section
open PySem PySem.W PySem.W.X PyProof.Rows
set_option Elab.async false
set_option maxRecDepth 100000
set_option maxHeartbeats 4000000
set_option linter.unusedVariables false
namespace Vl
open Mine
variable {w : World} {X : Av} {φ : Around → Prop} {K : List (Str × NameKind)} {ρ : List (Str × V)}
theorem search_neg (hT : X.tabs) {d : Nat} (hd : d < 470) {side lk lo : Int} {rv hv : V} {sq : List V} {rel : Addr} (hlo : lo < 0) :
    Does w (Fr' d X) X (.ref 74) [.int side, rv, .list sq, .val (.ref rel), .int lk, .int lo, hv] (.list [.str msg, .list []]) := by
  intro A s us Q E hP hA I r k
  refine wpAny_call (enter_push (fn74 w) rfl hA.dp I r fun E' env s₁ he hE hC F => ?_)
  have lv : Fr' (d + 1) (X.push env) (A.deeper env) := ⟨(Lv.deeper (by omega) A env hP.1 hA).1, Around.frames_deeper hP.2⟩
  have hf : env.frame = some env.locals := by rw [he]; rfl
  have hAo : AOk (A.deeper env) := lv.1.ok (by omega)
  have c : Ctx (Lv (d + 1)) ks74 env (A.deeper env) := ⟨lv.1, hAo, hE, hC⟩
  have hT' : (X.push env).tabs := hT
  delta bd74
  refine runs_cons c (thru_assign (ev_list evl_nil (by simp)) rfl (fun _ _ => rfl)) ?_ s₁ F
  intro s2 F2
  refine wpAny_execs_cons (wpAny_Assign_Name (key_wp (d := d + 1) (by omega) hT' lv.1 hE F2.I F2.H rfl rfl rfl (fun h u r => let ⟨nt, _, _, e, _⟩ := r; ⟨nt, e⟩) fun nt told a τ s3 I3 X3 n59 hK a1 rn hN => ?_) rfl)
  have F3 := F2.up I3 X3
  obtain ⟨m3, n3⟩ := F3.ns
  obtain ⟨oL, eL, tL⟩ := ns_tag n3
  obtain ⟨m2, n2⟩ := F2.ns
  obtain ⟨o2, e2, _⟩ := ns_tag n2
  refine st_name (v := .val (.ref (a 60))) hE F3 rfl rfl fun s4 F4 S4 kp4 sm4 => ?_
  have hK4 : Facts s4.heap (kRel w told a τ) := hK.of fun p hp e => kp4 _ _ (fun q => by
    rcases kRel_59 w told a τ p hp with h | h
    · exact n59 _ _ e2 (q ▸ h)
    · rw [q, eL] at e; cases e; exact h tL) e
  refine wpAny_execs_cons (wpAny_Try_except ?_)
  have I0 : Inv w ⟨X.l, s4.heap.get?, []⟩ s4 := ⟨F4.I.kt, F4.I.n, F4.I.k, F4.I.r, F4.I.x, fun b o e => e, fun _ h => nomatch h⟩
  have H0 := fun x v e => let ⟨u, r, b⟩ := F4.H x v e; (⟨u, Rep.less (X := X.push env) (Y := ⟨X.l, s4.heap.get?, []⟩) (fun a h => h) (fun a o e _ => F4.I.bs a o e) _ _ r, b⟩ : ∃ u, Rep ⟨X.l, s4.heap.get?, []⟩ s4.heap v u ∧ Bound env s4.heap x u)
  refine wpAny_execs_cons (wpAny_If (tr_cmp (φ := Lv (d + 1)) (ev_name rfl rfl) ev_int cmp_eq rfl env (A.deeper env) s4 _ _ lv.1 hAo hE I0 H0 fun s5 I5 X5 => ?_))
  have all5 : ∀ b o, s4.heap.get? b = some o → s5.heap.get? b = some o := fun b o e => I5.bs b o e
  have F5 := F4.up (F4.I.of all5) X5
  have hK5 := hK4.of fun p _ e => all5 _ _ e
  cases side == 0 with
  | true =>
    refine wpAny_execs_cons (wpAny_Assign_Name (bis_eval (d := d + 1) (by omega) lv hE F5.I F5.H rfl rfl (bisL_neg (by omega)) rfl rfl (gl_bl w) hK5 rfl rfl rfl rfl rfl hlo fun e t tk s6 s7 all6 sm6 fly tup tn up sm => ?_) rfl)
    refine caught (d := d + 1) (by omega) lv rfl hf hE (F5.up (F5.I.of all6) (Ext.of all6 sm6)) fly tup up sm rfl fun u s'' I' X' r' => ?_
    exact k u s'' I'.pop X' (Rep.less (X := X.push env) (Y := X) (fun a h => h) (fun _ _ e _ => e) _ _ r')
  | false =>
    refine wpAny_execs_cons (wpAny_Assign_Name (bis_eval (d := d + 1) (by omega) lv hE F5.I F5.H rfl rfl (bisR_neg (by omega)) rfl rfl (gl_br w) hK5 rfl rfl rfl rfl rfl hlo fun e t tk s6 s7 all6 sm6 fly tup tn up sm => ?_) rfl)
    refine caught (d := d + 1) (by omega) lv rfl hf hE (F5.up (F5.I.of all6) (Ext.of all6 sm6)) fly tup up sm rfl fun u s'' I' X' r' => ?_
    exact k u s'' I'.pop X' (Rep.less (X := X.push env) (Y := X) (fun a h => h) (fun _ _ e _ => e) _ _ r')
end Vl
end
section
open PySem PySem.W PySem.W.X PyProof.Rows
set_option Elab.async false
set_option maxRecDepth 100000
set_option maxHeartbeats 4000000
set_option linter.unusedVariables false
namespace Vl
open Mine
variable {w : World} {X : Av} {φ : Around → Prop} {K : List (Str × NameKind)} {ρ : List (Str × V)}
theorem ev_search_neg (hT : X.tabs) {d : Nat} (hd : d < 470) {x : Str} {np pos : Pos} {o : Obj} {e0 e1 e2 e3 e4 e5 e6 : Expr} (hk : K.lookup x = some .globalImplicit) (hdb : (x == ("__debug__" : Str)) = false) (g : Glb w x (.ref 74)) (ho : (kt w.params).get 74 = some o) (hf : isFn o = true)
    (hs0 : ∀ env, starEach (e0 :: [e1, e2, e3, e4, e5, e6]) env = (false, eval e0 env) :: starEach [e1, e2, e3, e4, e5, e6] env) (hs1 : ∀ env, starEach (e1 :: [e2, e3, e4, e5, e6]) env = (false, eval e1 env) :: starEach [e2, e3, e4, e5, e6] env) (hs2 : ∀ env, starEach (e2 :: [e3, e4, e5, e6]) env = (false, eval e2 env) :: starEach [e3, e4, e5, e6] env) (hs3 : ∀ env, starEach (e3 :: [e4, e5, e6]) env = (false, eval e3 env) :: starEach [e4, e5, e6] env) (hs4 : ∀ env, starEach (e4 :: [e5, e6]) env = (false, eval e4 env) :: starEach [e5, e6] env) (hs5 : ∀ env, starEach (e5 :: [e6]) env = (false, eval e5 env) :: starEach [e6] env) (hs6 : ∀ env, starEach (e6 :: []) env = (false, eval e6 env) :: starEach [] env)
    {f : Int → Int → Int → Int → Int} {side lk lo : Int} {rv hv : V} {sq : List V}
    (h0 : Ev w (Fr' d X) X K ρ e0 (.int side)) (h1 : Ev w (Fr' d X) X K ρ e1 rv) (h2 : Ev w (Fr' d X) X K ρ e2 (.list sq)) (h3 : EvR w (Fr' d X) X K ρ e3 f) (h4 : Ev w (Fr' d X) X K ρ e4 (.int lk)) (h5 : Ev w (Fr' d X) X K ρ e5 (.int lo)) (h6 : Ev w (Fr' d X) X K ρ e6 hv) (hlo : lo < 0) :
    Ev w (Fr' d X) X K ρ (.Call (.Name x np) [e0, e1, e2, e3, e4, e5, e6] [] pos) (.list [.str msg, .list []]) := by
  exact ev_call7 hk hdb g ho hf hs0 hs1 hs2 hs3 hs4 hs5 hs6 h0 h1 h2 h3 h4 h5 h6 fun A s rel us Q E hP hA I R r k => search_neg hT hd (side := side) (lk := lk) (rv := rv) (hv := hv) (sq := sq) (rel := rel) hlo A s us Q E hP hA I r k
theorem countedneg_ret (hT : X.tabs) {d : Nat} (hd : d < 470) {c0 c1 : Nat → Int} {n : Nat} (hn : n ≤ 80) {fl q0 q1 size lo hi : Int} (bfl : 0 ≤ fl ∧ fl ≤ 3) (hlo : lo < 0) :
    Ret w (Fr' d X) X ks89 (ps89.zip [.list (rowV c0 c1 n), .int fl, .list [.int q0, .int q1, .int (-1)], .int lo, .int hi, .int size]) bd89 (.bool true) := by
  have hl : (rks fl c0 c1 n).length = n := by simp [rks]
  delta bd89
  -- rank
  refine ret_cons (thru_assign (ev_callF rfl rfl (gl_law_rank w) rfl rfl (fun _ => rfl) (evl_cons (ev_name rfl rfl) (evl_cons (ev_name rfl rfl) evl_nil (fun _ => rfl)) (fun _ => rfl)) ((does_rank (d := d) (by omega) q0 q1 fl (.int (-1))).mono fun A h => h.1)) rfl (swaps_cell rfl)) ?_
  -- ranks
  refine ret_cons (thru_compO (xs := List.range n) (fun (k : Nat) => .list [.int (c0 k), .int (c1 k), .int (k : Int)]) (fun _ => true) (fun (k : Nat) => .int (rankV fl (c0 k) (c1 k))) (fun (k : Nat) => [(nItem, .list [.int (c0 k), .int (c1 k), .int (k : Int)])]) (out := Is (rks fl c0 c1 n)) rfl (by rw [filter_all]; simp [Is, rks, Function.comp_def])
    rfl rfl rfl (src_list (ev_name rfl rfl) rfl) rfl rfl (fun _ _ => rfl) (fun k _ D => bind_name rfl) (fun k _ D => trf_nil)
    (fun k _ _ D => ev_callF rfl rfl (gl_law_rank w) rfl rfl (fun _ => rfl) (evl_cons (ev_name rfl rfl) (evl_cons (ev_name rfl rfl) evl_nil (fun _ => rfl)) (fun _ => rfl)) ((does_rank (d := d) (by omega) (c0 k) (c1 k) fl (.int (k : Int))).mono fun A h => h.1)) (by simp; omega)) ?_
  -- less, upto
  have cnt : ∀ t : Int → Bool, ((rks fl c0 c1 n).filter t).length ≤ n := fun t => by have := List.length_filter_le t (rks fl c0 c1 n); omega
  refine ret_cons (thru_assign (v := .int (((rks fl c0 c1 n).filter fun z => decide (z < rankV fl q0 q1)).length : Int)) (ev_eq (ev_callB rfl rfl (gl_len w) (fun _ => rfl) (fun _ _ => rfl) (evl_cons (ev_compO (xs := rks fl c0 c1 n) V.int (fun z => decide (z < rankV fl q0 q1)) V.int (fun z => [(nOne, .int z)]) (out := Is ((rks fl c0 c1 n).filter fun z => decide (z < rankV fl q0 q1))) rfl rfl
      (src_list (ev_name rfl rfl) rfl) rfl rfl (fun _ _ => rfl) (fun k _ D => bind_name rfl) (fun k _ D => trf_one (tr_cmp (ev_name rfl rfl) (ev_name rfl rfl) cmp_lt rfl)) (fun k _ _ D => ev_name rfl rfl) (by omega)) evl_nil (fun _ => rfl)) (does_len (by have := cnt fun z => decide (z < rankV fl q0 q1); simp [Is]; omega))) (by simp [Is])) rfl (fun _ _ => rfl)) ?_
  refine ret_cons (thru_assign (v := .int (((rks fl c0 c1 n).filter fun z => decide (z ≤ rankV fl q0 q1)).length : Int)) (ev_eq (ev_callB rfl rfl (gl_len w) (fun _ => rfl) (fun _ _ => rfl) (evl_cons (ev_compO (xs := rks fl c0 c1 n) V.int (fun z => decide (z ≤ rankV fl q0 q1)) V.int (fun z => [(nOne, .int z)]) (out := Is ((rks fl c0 c1 n).filter fun z => decide (z ≤ rankV fl q0 q1))) rfl rfl
      (src_list (ev_name rfl rfl) rfl) rfl rfl (fun _ _ => rfl) (fun k _ D => bind_name rfl) (fun k _ D => trf_one (tr_cmp (ev_name rfl rfl) (ev_name rfl rfl) cmp_le rfl)) (fun k _ _ D => ev_name rfl rfl) (by omega)) evl_nil (fun _ => rfl)) (does_len (by have := cnt fun z => decide (z ≤ rankV fl q0 q1); simp [Is]; omega))) (by simp [Is])) rfl (fun _ _ => rfl)) ?_
  -- top
  refine ret_cons (thru_assign (v := .int hi) (ev_if (c := false) (tr_cmp (ev_name rfl rfl) ev_none (cmp_isNone rfl) rfl) (fun q => nomatch q) (fun _ => ev_name rfl rfl)) rfl (fun _ _ => rfl)) ?_
  refine ret_cons (thru_for (xs := [.int 0, .int 1]) (ev_list (evl_cons ev_int (evl_cons ev_int evl_nil (fun _ => rfl)) (fun _ => rfl)) (by simp)) rfl (fun _ _ => rfl) fun v hv => ?_) (ret_ret ev_bool)
  have hlikes : ∀ u, u ∈ ([.int 0, .int size, .int (-size)] : List V) → ∃ lk, u = .int lk := fun u hu => by
    simp only [List.mem_cons, List.not_mem_nil, or_false] at hu
    rcases hu with rfl | rfl | rfl <;> exact ⟨_, rfl⟩
  simp only [List.mem_cons, List.not_mem_nil, or_false] at hv
  rcases hv with rfl | rfl
  · refine ⟨_, thru_cons (thru_for (xs := [.int 0, .int size, .int (-size)]) (ev_list (evl_cons ev_int (evl_cons (ev_name rfl rfl) (evl_cons (ev_neg (ev_name rfl rfl)) evl_nil (fun _ => rfl)) (fun _ => rfl)) (fun _ => rfl)) (by simp)) rfl (fun _ _ => rfl) fun u hu => ?_) thru_nil, less_cons rfl fun y u h => h⟩
    obtain ⟨lk, rfl⟩ := hlikes u hu
    refine ⟨_, thru_cons (thru_assign (ev_ifInt (tr_cmp (ev_cmp (ev_name rfl rfl) ev_int cmp_eq rfl) (ev_cmp (ev_name rfl rfl) ev_int cmp_ge rfl) cmp_eqBool rfl) (fun _ => ev_name rfl rfl) (fun _ => ev_name rfl rfl)) rfl (fun _ _ => rfl))
      (thru_cons (thru_pair (ev_search_neg hT (by omega) rfl rfl (gl_law_search w) rfl rfl (fun _ => rfl) (fun _ => rfl) (fun _ => rfl) (fun _ => rfl) (fun _ => rfl) (fun _ => rfl) (fun _ => rfl) (ev_name rfl rfl) (ev_name rfl rfl) (ev_name rfl rfl) (evr_rules hT (d := d) (by omega) (fun _ h => h.1) rfl rfl (gl_law_rules w) rfl rfl (fun _ => rfl) (ev_name rfl rfl)) (ev_name rfl rfl) (ev_name rfl rfl) (ev_name rfl rfl) hlo) rfl rfl rfl (fun _ => rfl) (fun _ => rfl))
      (thru_cons (thru_take (tr_cmp (ev_name rfl rfl) ev_int cmp_lt rfl) (decide_eq_true hlo)
        (thru_cons (thru_skip (tr_cmp (ev_list (evl_cons (ev_name rfl rfl) (evl_cons (ev_name rfl rfl) evl_nil (fun _ => rfl)) (fun _ => rfl)) (by simp))
          (ev_list (evl_cons ev_str (evl_cons (ev_list evl_nil (by simp)) evl_nil (fun _ => rfl)) (fun _ => rfl)) (by simp)) (cmp_notSame (a := .list [.str msg, .list []]) (n := 4) ⟨(by decide +kernel : PyData.strOk msg = true), True.intro, True.intro⟩ (by decide)) rfl) rfl thru_nil) thru_nil)) thru_nil)), ?_⟩
    exact less_cons rfl (less_cons rfl (less_cons rfl (less_cons rfl fun y u h => h)))
  · refine ⟨_, thru_cons (thru_for (xs := [.int 0, .int size, .int (-size)]) (ev_list (evl_cons ev_int (evl_cons (ev_name rfl rfl) (evl_cons (ev_neg (ev_name rfl rfl)) evl_nil (fun _ => rfl)) (fun _ => rfl)) (fun _ => rfl)) (by simp)) rfl (fun _ _ => rfl) fun u hu => ?_) thru_nil, less_cons rfl fun y u h => h⟩
    obtain ⟨lk, rfl⟩ := hlikes u hu
    refine ⟨_, thru_cons (thru_assign (ev_ifInt (tr_cmp (ev_cmp (ev_name rfl rfl) ev_int cmp_eq rfl) (ev_cmp (ev_name rfl rfl) ev_int cmp_ge rfl) cmp_eqBool rfl) (fun _ => ev_name rfl rfl) (fun _ => ev_name rfl rfl)) rfl (fun _ _ => rfl))
      (thru_cons (thru_pair (ev_search_neg hT (by omega) rfl rfl (gl_law_search w) rfl rfl (fun _ => rfl) (fun _ => rfl) (fun _ => rfl) (fun _ => rfl) (fun _ => rfl) (fun _ => rfl) (fun _ => rfl) (ev_name rfl rfl) (ev_name rfl rfl) (ev_name rfl rfl) (evr_rules hT (d := d) (by omega) (fun _ h => h.1) rfl rfl (gl_law_rules w) rfl rfl (fun _ => rfl) (ev_name rfl rfl)) (ev_name rfl rfl) (ev_name rfl rfl) (ev_name rfl rfl) hlo) rfl rfl rfl (fun _ => rfl) (fun _ => rfl))
      (thru_cons (thru_take (tr_cmp (ev_name rfl rfl) ev_int cmp_lt rfl) (decide_eq_true hlo)
        (thru_cons (thru_skip (tr_cmp (ev_list (evl_cons (ev_name rfl rfl) (evl_cons (ev_name rfl rfl) evl_nil (fun _ => rfl)) (fun _ => rfl)) (by simp))
          (ev_list (evl_cons ev_str (evl_cons (ev_list evl_nil (by simp)) evl_nil (fun _ => rfl)) (fun _ => rfl)) (by simp)) (cmp_notSame (a := .list [.str msg, .list []]) (n := 4) ⟨(by decide +kernel : PyData.strOk msg = true), True.intro, True.intro⟩ (by decide)) rfl) rfl thru_nil) thru_nil)) thru_nil)), ?_⟩
    exact less_cons rfl (less_cons rfl (less_cons rfl (less_cons rfl fun y u h => h)))

theorem counted_neg (hT : X.tabs) {d : Nat} (hd : d < 460) {c0 c1 : Nat → Int} {n : Nat} (hn : n ≤ 80) {fl q0 q1 size lo hi : Int} (bfl : 0 ≤ fl ∧ fl ≤ 3) (hlo : lo < 0) :
    Does w (Fr' d X) X (.ref 89) [.list (rowV c0 c1 n), .int fl, .list [.int q0, .int q1, .int (-1)], .int lo, .int hi, .int size] (.bool true) := by
  intro A s us Q E hP hA I r k
  refine wpAny_call (enter_push (fn89 w) rfl hA.dp I r fun E' env s₁ he hE hC F => ?_)
  have lv : Fr' (d + 1) (X.push env) (A.deeper env) := ⟨(Lv.deeper (by omega) A env hP.1 hA).1, Around.frames_deeper hP.2⟩
  have hT' : (X.push env).tabs := hT
  refine countedneg_ret hT' (d := d + 1) (by omega) hn bfl hlo env (A.deeper env) s s₁ _ E' lv (lv.1.ok (by omega)) hE hC F fun u s' I' X' r' => ?_
  exact k u s' I'.pop X' (Rep.less (X := X.push env) (Y := X) (fun a h => h) (fun _ _ e _ => e) _ _ r')
end Vl
end
section
open PySem PySem.W PySem.W.X PyProof.Rows
set_option Elab.async false
set_option maxRecDepth 100000
set_option maxHeartbeats 4000000
set_option linter.unusedVariables false
namespace Vl
open Mine
variable {w : World}
def lawAv (s : Shared) : Av := ⟨[], fun b => if b ∈ ([34, 48, 62] : List Addr) then none else s.heap.get? b, []⟩
theorem law_inv {s : Shared} (KX : (Mine.K w.params).In s.heap) : Inv w (lawAv s) s where
  kt := kt_in KX
  n := .inl (tab_in KX).2.2.1
  k := .inl (tab_in KX).1
  r := .inl (tab_in KX).2.1
  x := fun _ h => nomatch h
  bs := fun b o e => by
    have e' : (if b ∈ ([34, 48, 62] : List Addr) then none else s.heap.get? b) = some o := e
    split at e'
    · cases e'
    · exact e'
  f := fun _ h => nomatch h
theorem law_code' {s : Shared} (KX : (Mine.K w.params).In s.heap) (hg : s.gens = #[]) {l : Addr} {vs : List Value} {sc : List Int} (hL : s.heap.IsList l vs.toArray) (hI : IntsAre vs sc) (hlen : sc.length ≤ 63)
    {n : Nat} {T size : Int} {lo hi : Nat} {fl low : Int} {high l3 : Nat} {c0 c1 : Nat → Int} (N : Nums sc n T size lo hi fl low high l3 c0 c1)
    (hneg : ∀ (X : Av) (d0 d1 : Nat → Int), X.tabs → low < 0 → Does w (Fr' 302 X) X (.ref 89) [.list (rowV d0 d1 n), .int fl, .list [.int (c0 0), .int (c1 0), .int (-1)], .int low, .int (high : Int), .int size] (.bool true)) :
    codeAny (model prg w) callerA (.call (.ref 94) ⟨[.ref l], []⟩) (fun r s' => r = .ok (.ret (.bool true)) ∧ (∀ b o, (ghostOf s.heap tabs4).get? b = some o → s'.heap.get? b = some o) ∧ s'.os = s.os ∧ s'.gens = #[] ∧ GrownAll tabs4 s'.heap) s := by
  have I := law_inv KX
  obtain ⟨o, ho, hc, nn, hd⟩ := hL
  have hol : (lawAv s).B l = some o := by
    show (if l ∈ ([34, 48, 62] : List Addr) then none else s.heap.get? l) = some o
    rw [if_neg, ho]
    intro m
    obtain ⟨t0, t1, t2, t3⟩ := tab_in KX
    simp only [List.mem_cons, List.not_mem_nil, or_false] at m
    rcases m with rfl | rfl | rfl
    · rw [t0] at ho; cases ho; cases hc
    · rw [t1] at ho; cases ho; cases hc
    · rw [t2] at ho; cases ho; cases hc
  refine enter_push (X := lawAv s) (vs := [.own sc]) (fn94 w) rfl (by decide) I ⟨.ref l, [], rfl, ⟨l, o, vs.toArray, nn, rfl, hol, hc, hd, by simpa using hI⟩, rfl⟩ fun E env s₁ he hE hC F => ?_
  have hφ : ∀ A, (Lv 302 A ∧ A.frames = some [env]) → Lv 302 A := fun A h => h.1
  have c : Ctx (fun A => Lv 302 A ∧ A.frames = some [env]) ks94 env (callerA.deeper env) := ⟨⟨⟨rfl, Nat.le_refl 302, (by decide : (7 : Nat) ≤ 4 * 302)⟩, rfl⟩, ⟨rfl, (by decide : (302 : Nat) ≤ 600), (by decide : (7 : Nat) ≤ 3000)⟩, hE, hC⟩
  have hT : ((lawAv s).push env).tabs := fun b m => if_pos m
  have h91 : ((lawAv s).push env).B 91 = some (tabObj #[]) := by
    show (if (91 : Nat) ∈ ([34, 48, 62] : List Addr) then none else s.heap.get? 91) = _
    rw [if_neg (by decide)]
    exact (tab_in KX).2.2.2
  refine law_runs hlen N (d := 302) (by decide) hφ c (by rw [he]; rfl) hT h91 (fun ps d0 d1 hl => ?_) (fun ps u s' I' X' r' => ?_) s₁ F
  · exact hneg (((lawAv s).push env).grow ps) d0 d1 (fun b m => by
      show (if b = 91 then some (tabObj ps) else ((lawAv s).push env).B b) = none
      rw [if_neg (fun q => by subst q; simp at m)]
      exact hT b m) hl
  · obtain rfl : u = .bool true := r'
    refine ⟨rfl, fun b o e => ?_, ?_, ?_, grown_all I'⟩
    · have e1 : s.heap.get? b = some o := of_hideAll _ e
      have e2 : b ∉ tabs4.map (·.2) := fun m => by
        rw [show (ghostOf s.heap tabs4).get? b = none from hideAll_none _ m] at e; cases e
      refine I'.bs b o ?_
      show (if b = 91 then some (tabObj ps) else (if b ∈ ([34, 48, 62] : List Addr) then none else s.heap.get? b)) = some o
      rw [if_neg (fun q => e2 (by rw [q]; decide)), if_neg (fun m => e2 ?_), e1]
      simp only [List.mem_cons, List.not_mem_nil, or_false] at m
      rcases m with rfl | rfl | rfl <;> decide
    · have := X'.same.2
      simp only [Prod.mk.injEq] at this
      exact this.2
    · rw [X'.same.1, hg]
end Vl
end
section
open PySem PySem.W PySem.W.X PyProof.Rows
set_option Elab.async false
set_option maxRecDepth 100000
set_option maxHeartbeats 4000000
set_option linter.unusedVariables false
namespace Vl
open Mine
theorem fm (a b : Int) (h : 0 < b) : 0 ≤ a.fmod b ∧ a.fmod b < b := ⟨Int.fmod_nonneg_of_pos a h, Int.fmod_lt_of_pos a h⟩
def at' (sc : List Int) (k : Nat) : Int := ((drOf sc)[k]?).getD 0
theorem nums (sc : List Int) : ∃ n T size lo hi fl low high l3 c0 c1, Nums sc n T size lo hi fl low high l3 c0 c1 := by
  have hn : (drOf sc).length = (csOf sc).length + 7 := by unfold drOf; rw [List.length_append]; rfl
  have hc : (csOf sc).length ≤ 12 := by unfold csOf; rw [List.length_map, List.length_take]; omega
  generalize hN : (drOf sc).length = n at hn
  have h7 : 7 ≤ n ∧ n ≤ 19 := by omega
  generalize hT : (csOf sc).sum = T
  have d2 : (n : Int).fdiv 2 = (n : Int) / 2 := Int.fdiv_eq_ediv_of_nonneg _ (by decide)
  have p2 : 0 < (n : Int).fdiv 2 := by rw [d2]; omega
  have p1 : 0 < (n : Int) + 1 := by omega
  have f50 := fm T 50 (by decide)
  have fl := fm T _ p2
  have fh := fm (T.fdiv 7) _ p2
  have ff := fm (T.fdiv 5) 4 (by decide)
  have f5 := fm (T + 1) 5 (by decide)
  have f15 := fm (T.fdiv 15) _ p1
  have f11 := fm (T.fdiv 11) _ p1
  have k1 := fm T 3 (by decide)
  have k2 := fm (T + 1) 3 (by decide)
  have k3 := fm (T.fdiv 3) 3 (by decide)
  rw [d2] at fl fh
  exact ⟨n, T, 1 + T.fmod 50, (T.fmod ((n : Int).fdiv 2)).toNat, ((n : Int) - (T.fdiv 7).fmod ((n : Int).fdiv 2)).toNat, (T.fdiv 5).fmod 4, (T + 1).fmod 5 - 1, ((n : Int) - (T.fdiv 15).fmod ((n : Int) + 1)).toNat, ((T.fdiv 11).fmod ((n : Int) + 1)).toNat,
    fun k => (at' sc k).fmod 3, fun k => ((at' sc k).fdiv 3).fmod 3,
    { len := hN
      sum := hT
      col := fun k hk => ⟨at' sc k, by unfold at'; rw [List.getElem?_eq_getElem (by omega)]; rfl, rfl, rfl⟩
      n7 := h7
      eSize := rfl
      pos := by omega
      eLo := by rw [d2]; omega
      lon := by rw [d2]; omega
      eHi := by rw [d2]; omega
      hin := by rw [d2]; omega
      b0 := fun k _ => by have := fm (at' sc k) 3 (by decide); omega
      b1 := fun k _ => by have := fm ((at' sc k).fdiv 3) 3 (by decide); omega
      k1 := by omega
      k2 := by omega
      k3 := by omega
      eFl := rfl
      bfl := by omega
      eLow := rfl
      low1 := by omega
      eHigh := by omega
      highn := by omega
      eL3 := by omega
      h2 := by omega
      h1 := by omega }⟩
end Vl
end
section
open PySem PySem.W PySem.W.X PyProof.Rows
set_option Elab.async false
set_option maxRecDepth 100000
set_option maxHeartbeats 4000000
set_option linter.unusedVariables false
namespace Vl
open Mine
theorem law_good {w : World} {s₀ s₁ : Shared} {mean : ExcName → Option Value} {cl : Str → Option Addr} {fa l : Addr} {vs : List Value} {sc : List Int} {args : List WData} (KX : (Mine.K w.params).In s₁.heap) (hfa : fa = 94) (hg : s₁.gens = #[]) (hL : s₁.heap.IsList l vs.toArray) (hI : IntsAre vs sc) (hlen : sc.length ≤ 63)
    (hneg : ∀ (X : Av) (n : Nat) (d0 d1 : Nat → Int) (fl q0 q1 low high size : Int), X.tabs → n ≤ 80 → 0 ≤ fl ∧ fl ≤ 3 → low < 0 → Does w (Fr' 302 X) X (.ref 89) [.list (rowV d0 d1 n), .int fl, .list [.int q0, .int q1, .int (-1)], .int low, .int high, .int size] (.bool true)) :
    wpAny (model PySem.Challenge.rw_mr0137_01.row.prog w) callerA (call (.ref fa) [.ref l])
      (fun v s' => GoodWG PySem.Challenge.rw_mr0137_01.row.claim cl mean args s₁ (.ok (.ret v)) s')
      (fun e s' => GoodWG PySem.Challenge.rw_mr0137_01.row.claim cl mean args s₁ (.error e) s') s₁ := by
  subst hfa
  obtain ⟨n, T, size, lo, hi, fl, low, high, l3, c0, c1, N⟩ := nums sc
  refine wpAny_call (codeAny_mono (kn_post (cw := PySem.Challenge.rw_mr0137_01.row.claim) (cl := cl) (mean := mean) (args := args) (tabs := tabs4) (s₁ := s₁) (tabs_at KX) (fun _ _ => rfl)
    (codeAny_mono (law_code' KX hg hL hI hlen N fun X d0 d1 hT h => hneg X n d0 d1 fl (c0 0) (c1 0) low high size hT (by have := N.n7; omega) N.bfl h) fun r s' h => ?_)) fun r s' h => ?_)
  · obtain ⟨rfl, k, hos, hgs, gr⟩ := h
    exact ⟨⟨.inl ⟨.bool true, .bool true, [], rfl, fun _ => rfl, .bool true, (by wrow_post), fun _ => ⟨List.nodup_nil, fun _ m => nomatch m⟩⟩, k, hos, hgs⟩, gr⟩
  · match r with
    | .ok (.ret v) => exact h
    | .error e => exact h
    | .ok .next => exact (by rcases h.1 with ⟨_, _, _, e, _⟩ | ⟨_, _, _, e, _⟩ <;> cases e)
    | .ok .brk => exact (by rcases h.1 with ⟨_, _, _, e, _⟩ | ⟨_, _, _, e, _⟩ <;> cases e)
    | .ok .cont => exact (by rcases h.1 with ⟨_, _, _, e, _⟩ | ⟨_, _, _, e, _⟩ <;> cases e)
theorem law94 {w : World} {s₀ : Shared} {mg mb : Str → Option Value} {h : Heap} {a : Addr} (KX : (Mine.K w.params).In h) (g : h.Ns mainGlobals mg) (e : mg (Str.ofString "law") = some (.ref a)) : a = 94 := by
  have g2 := g_ns (kt_in KX)
  obtain ⟨o1, es1, ep1, e1, d1, _, f1⟩ := g
  obtain ⟨o2, es2, ep2, e2, d2, _, f2⟩ := g2
  rw [e1] at e2; cases e2
  rw [d1] at d2; cases d2
  have : nsOf (gObj w) (Str.ofString "law") = some (.ref 94) := by kernel_rfl
  rw [← f1, f2, this] at e
  cases e; rfl
theorem holds_but (hneg : ∀ (w : World) (X : Av) (n : Nat) (d0 d1 : Nat → Int) (fl q0 q1 low high size : Int), X.tabs → n ≤ 80 → 0 ≤ fl ∧ fl ≤ 3 → low < 0 → Does w (Fr' 302 X) X (.ref 89) [.list (rowV d0 d1 n), .int fl, .list [.int q0, .int q1, .int (-1)], .int low, .int high, .int size] (.bool true)) :
    PySem.Challenge.rw_mr0137_01.Holds := by
  refine Mine.hd ?_
  intro w s₀ s₁ mg mb G Y fa o pm cd doc dV kV ho hod hcd hD hmg hg args vals as hpre hlay hrd hwl hlo
  clear hod hcd hD ho
  have hmg' : mg (Str.ofString "law") = some (.ref fa) := hmg
  have KX := kIn_of Y
  have hfa := law94 (s₀ := s₀) (mb := mb) KX G.T.g hmg'
  clear hmg hmg' G Y
  wrow_args hpre hlay hrd hwl hlo
  rename_i sc _ _ _ _ _ _ _ l vs _ hL _ _ _ hI _ hlen _
  exact law_good (s₀ := s₀) KX hfa hg hL hI (by omega) (hneg w)
theorem holds : PySem.Challenge.rw_mr0137_01.Holds := holds_but fun w X n d0 d1 fl q0 q1 low high size hT hn bfl hlo => counted_neg hT (by decide) hn bfl hlo
end Vl
end

theorem PySem.Challenge.cw_mr0137_01_holds : PySem.Challenge.rw_mr0137_01.Holds :=
  Vl.holds
