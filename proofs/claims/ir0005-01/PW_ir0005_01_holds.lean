import PyProof.Rows.All
import Wide.All
import OpenK.AllK
import KE.KSortTup
import KE.KLcPair
import Wide.FinOn
import PySem.Challenge.RW_ir0005_01
set_option Elab.async false
set_option linter.unusedVariables false
set_option linter.unusedSimpArgs false
namespace Mine
open Classical

/-- the goal out of sight while a fact is taken apart -/
theorem hide {G : Prop} (h : ∀ P : Prop, (G → P) → P) : G := h G id
inductive E2 {α1 : Sort _} {α2 : Sort _} (p : α1 → α2 → Prop) : Prop
  | mk a1 a2 (h : p a1 a2)
inductive E3 {α1 : Sort _} {α2 : Sort _} {α3 : Sort _} (p : α1 → α2 → α3 → Prop) : Prop
  | mk a1 a2 a3 (h : p a1 a2 a3)
inductive E4 {α1 : Sort _} {α2 : Sort _} {α3 : Sort _} {α4 : Sort _} (p : α1 → α2 → α3 → α4 → Prop) : Prop
  | mk a1 a2 a3 a4 (h : p a1 a2 a3 a4)
inductive A3 (p1 p2 p3 : Prop) : Prop
  | mk (h1 : p1) (h2 : p2) (h3 : p3)
inductive A4 (p1 p2 p3 p4 : Prop) : Prop
  | mk (h1 : p1) (h2 : p2) (h3 : p3) (h4 : p4)
inductive A5 (p1 p2 p3 p4 p5 : Prop) : Prop
  | mk (h1 : p1) (h2 : p2) (h3 : p3) (h4 : p4) (h5 : p5)
inductive A6 (p1 p2 p3 p4 p5 p6 : Prop) : Prop
  | mk (h1 : p1) (h2 : p2) (h3 : p3) (h4 : p4) (h5 : p5) (h6 : p6)
inductive A7 (p1 p2 p3 p4 p5 p6 p7 : Prop) : Prop
  | mk (h1 : p1) (h2 : p2) (h3 : p3) (h4 : p4) (h5 : p5) (h6 : p6) (h7 : p7)


inductive D : Type where
  | none | bool (b : Bool) | int (i : Int) | tup (l : List D) | lst (l : List D)
  deriving Inhabited

inductive Ty : Type where
  | int | tup (l : List Ty) | lst (t : Ty)
  deriving Inhabited

mutual
noncomputable def D.lt : D → D → Bool
  | .int a, .int b => decide (a < b)
  | .tup a, .tup b => Ds.lt a b
  | .lst a, .lst b => Ds.lt a b
  | .bool a, .bool b => !a && b
  | .none, .none => false
  | .none, _ => true
  | .bool _, .none => false
  | .bool _, _ => true
  | .int _, .tup _ => true
  | .int _, .lst _ => true
  | .int _, _ => false
  | .tup _, .lst _ => true
  | .tup _, _ => false
  | .lst _, _ => false
noncomputable def Ds.lt : List D → List D → Bool
  | [], [] => false
  | [], _ :: _ => true
  | _ :: _, [] => false
  | a :: as, b :: bs => if a = b then Ds.lt as bs else D.lt a b
end

mutual
theorem D.lt_irrefl : ∀ a : D, D.lt a a = false
  | .none => by simp [D.lt]
  | .bool b => by cases b <;> simp [D.lt]
  | .int i => by simp [D.lt]
  | .tup l => by rw [D.lt]; exact Ds.lt_irrefl l
  | .lst l => by rw [D.lt]; exact Ds.lt_irrefl l
theorem Ds.lt_irrefl : ∀ a : List D, Ds.lt a a = false
  | [] => by simp [Ds.lt]
  | d :: ds => by rw [Ds.lt, if_pos rfl]; exact Ds.lt_irrefl ds
end
mutual
theorem D.lt_total : ∀ a b : D, a ≠ b → D.lt a b = false → D.lt b a = true
  | .int a, .int b => by simp [D.lt]; (first | lia | omega)
  | .tup a, .tup b => fun h h2 => by rw [D.lt] at h2 ⊢; exact Ds.lt_total a b (fun e => h (by rw [e])) h2
  | .lst a, .lst b => fun h h2 => by rw [D.lt] at h2 ⊢; exact Ds.lt_total a b (fun e => h (by rw [e])) h2
  | .bool a, .bool b => by cases a <;> cases b <;> simp [D.lt]
  | .none, .none => by simp
  | .none, .bool _ => by simp [D.lt]
  | .none, .int _ => by simp [D.lt]
  | .none, .tup _ => by simp [D.lt]
  | .none, .lst _ => by simp [D.lt]
  | .bool _, .none => by simp [D.lt]
  | .bool _, .int _ => by simp [D.lt]
  | .bool _, .tup _ => by simp [D.lt]
  | .bool _, .lst _ => by simp [D.lt]
  | .int _, .none => by simp [D.lt]
  | .int _, .bool _ => by simp [D.lt]
  | .int _, .tup _ => by simp [D.lt]
  | .int _, .lst _ => by simp [D.lt]
  | .tup _, .none => by simp [D.lt]
  | .tup _, .bool _ => by simp [D.lt]
  | .tup _, .int _ => by simp [D.lt]
  | .tup _, .lst _ => by simp [D.lt]
  | .lst _, .none => by simp [D.lt]
  | .lst _, .bool _ => by simp [D.lt]
  | .lst _, .int _ => by simp [D.lt]
  | .lst _, .tup _ => by simp [D.lt]
theorem Ds.lt_total : ∀ a b : List D, a ≠ b → Ds.lt a b = false → Ds.lt b a = true
  | [], [] => by simp
  | [], _ :: _ => by simp [Ds.lt]
  | _ :: _, [] => by simp [Ds.lt]
  | a :: as, b :: bs => fun h h2 => by
    rw [Ds.lt] at h2 ⊢
    by_cases e : a = b
    · rw [if_pos e] at h2
      rw [if_pos e.symm]
      exact Ds.lt_total as bs (fun e2 => h (by rw [e, e2])) h2
    · rw [if_neg e] at h2
      rw [if_neg (Ne.symm e)]
      exact D.lt_total a b e h2
end
mutual
theorem D.lt_asymm : ∀ a b : D, D.lt a b = true → D.lt b a = false
  | .int a, .int b => by simp [D.lt]; (first | lia | omega)
  | .tup a, .tup b => fun h => by rw [D.lt] at h ⊢; exact Ds.lt_asymm a b h
  | .lst a, .lst b => fun h => by rw [D.lt] at h ⊢; exact Ds.lt_asymm a b h
  | .bool a, .bool b => by cases a <;> cases b <;> simp [D.lt]
  | .none, .none => by simp [D.lt]
  | .none, .bool _ => by simp [D.lt]
  | .none, .int _ => by simp [D.lt]
  | .none, .tup _ => by simp [D.lt]
  | .none, .lst _ => by simp [D.lt]
  | .bool _, .none => by simp [D.lt]
  | .bool _, .int _ => by simp [D.lt]
  | .bool _, .tup _ => by simp [D.lt]
  | .bool _, .lst _ => by simp [D.lt]
  | .int _, .none => by simp [D.lt]
  | .int _, .bool _ => by simp [D.lt]
  | .int _, .tup _ => by simp [D.lt]
  | .int _, .lst _ => by simp [D.lt]
  | .tup _, .none => by simp [D.lt]
  | .tup _, .bool _ => by simp [D.lt]
  | .tup _, .int _ => by simp [D.lt]
  | .tup _, .lst _ => by simp [D.lt]
  | .lst _, .none => by simp [D.lt]
  | .lst _, .bool _ => by simp [D.lt]
  | .lst _, .int _ => by simp [D.lt]
  | .lst _, .tup _ => by simp [D.lt]
theorem Ds.lt_asymm : ∀ a b : List D, Ds.lt a b = true → Ds.lt b a = false
  | [], [] => by simp [Ds.lt]
  | [], _ :: _ => by simp [Ds.lt]
  | _ :: _, [] => by simp [Ds.lt]
  | a :: as, b :: bs => fun h => by
    rw [Ds.lt] at h ⊢
    by_cases e : a = b
    · rw [if_pos e] at h
      rw [if_pos e.symm]
      exact Ds.lt_asymm as bs h
    · rw [if_neg e] at h
      rw [if_neg (Ne.symm e)]
      exact D.lt_asymm a b h
end
mutual
theorem D.lt_trans : ∀ a b c : D, D.lt a b = true → D.lt b c = true → D.lt a c = true
  | .none, b, c => by cases b <;> cases c <;> simp [D.lt]
  | .bool x, b, c => by cases b <;> cases c <;> (try simp [D.lt]) <;> (rename_i y z; cases x <;> cases y <;> cases z <;> simp)
  | .int x, b, c => by cases b <;> cases c <;> (try simp [D.lt]) <;> (first | lia | omega)
  | .tup a, b, c => by
    cases b <;> cases c <;> (try simp [D.lt])
    rename_i y z
    exact Ds.lt_trans a y z
  | .lst a, b, c => by
    cases b <;> cases c <;> (try simp [D.lt])
    rename_i y z
    exact Ds.lt_trans a y z
theorem Ds.lt_trans : ∀ a b c : List D, Ds.lt a b = true → Ds.lt b c = true → Ds.lt a c = true
  | [], b, c => by cases b <;> cases c <;> simp [Ds.lt]
  | _ :: _, [], _ => by simp [Ds.lt]
  | _ :: _, _ :: _, [] => by simp [Ds.lt]
  | a :: as, b :: bs, c :: cs => fun h h2 => by
    rw [Ds.lt] at h h2 ⊢
    by_cases e : a = b
    · rw [if_pos e] at h
      by_cases e2 : b = c
      · rw [if_pos e2] at h2
        rw [if_pos (e.trans e2)]
        exact Ds.lt_trans as bs cs h h2
      · rw [if_neg e2] at h2
        rw [if_neg (by rw [e]; exact e2), e]
        exact h2
    · rw [if_neg e] at h
      by_cases e2 : b = c
      · rw [if_neg (by rw [← e2]; exact e), ← e2]
        exact h
      · rw [if_neg e2] at h2
        by_cases e3 : a = c
        · subst e3
          have := D.lt_asymm a b h
          rw [h2] at this; cases this
        · rw [if_neg e3]
          exact D.lt_trans a b c h h2
end
/-- less or equal -/
noncomputable def D.le (a b : D) : Bool := !D.lt b a
theorem D.le_refl (a : D) : D.le a a = true := by simp [D.le, D.lt_irrefl]
theorem D.le_of_lt {a b : D} (h : D.lt a b = true) : D.le a b = true := by simp [D.le, D.lt_asymm a b h]
theorem D.le_antisymm {a b : D} (h : D.le a b = true) (h2 : D.le b a = true) : a = b := by
  simp only [D.le, Bool.not_eq_true'] at h h2
  by_cases e : a = b
  · exact e
  · have := D.lt_total a b e h2; rw [h] at this; cases this
theorem D.le_total (a b : D) : D.le a b = true ∨ D.le b a = true := by
  simp only [D.le, Bool.not_eq_true']
  cases h : D.lt b a with
  | false => exact .inl rfl
  | true => exact .inr (D.lt_asymm b a h)
theorem D.lt_iff {a b : D} : D.lt a b = true ↔ D.le a b = true ∧ a ≠ b := by
  constructor
  · intro h; exact ⟨D.le_of_lt h, fun e => by rw [e, D.lt_irrefl] at h; cases h⟩
  · rintro ⟨h, e⟩
    simp only [D.le, Bool.not_eq_true'] at h
    exact D.lt_total b a (Ne.symm e) h
theorem D.le_trans {a b c : D} (h : D.le a b = true) (h2 : D.le b c = true) : D.le a c = true := by
  by_cases e : a = b
  · rw [e]; exact h2
  · by_cases e2 : b = c
    · rw [← e2]; exact h
    · exact D.le_of_lt (D.lt_trans _ _ _ (D.lt_iff.mpr ⟨h, e⟩) (D.lt_iff.mpr ⟨h2, e2⟩))
theorem D.not_lt {a b : D} : D.lt a b = false ↔ D.le b a = true := by simp [D.le]

mutual
noncomputable def Has : Ty → D → Prop
  | .int, .int _ => True
  | .tup ts, .tup ds => Hass ts ds
  | .lst t, .lst ds => ∀ d ∈ ds, Has t d
  | _, _ => False
noncomputable def Hass : List Ty → List D → Prop
  | [], [] => True
  | t :: ts, d :: ds => Has t d ∧ Hass ts ds
  | _, _ => False
end
mutual
noncomputable def Ty.depth : Ty → Nat
  | .int => 0
  | .tup ts => Tys.depth ts + 1
  | .lst t => t.depth + 1
noncomputable def Tys.depth : List Ty → Nat
  | [] => 0
  | t :: ts => max t.depth (Tys.depth ts)
end
end Mine
open PySem PySem.W PyProof.Rows
set_option maxRecDepth 100000
namespace Mine
open PySem.SeqAt PySem.MeetsSeq PySem.MeetsSeq2 PySem.MeetsSeq3 PySem.SeqRoads2
open PySem.AutoSeq1 (wpAny_loadPart')

def LtAt (A : Around) (s : Shared) (y x : Value) (b : Bool) : Prop :=
  ∀ (prog : Program) (w : World) (E : Value → Shared → Prop) (Q : Value → Shared → Prop), Q (.bool b) s → wpAny (model prog w) A (richCompare .Lt y x) Q E s

noncomputable def lexAt (e f : Nat → Bool) (fin : Bool) : Nat → Nat → Bool
  | _, 0 => fin
  | i, k + 1 => if e i then lexAt e f fin (i + 1) k else f i

theorem tuple_ltAt (l b : Addr) (items items2 : Array Value) (n n2 : Nat) (dd dd2 : Option Addr) (sl sl2 : Array (Option Value)) (e f : Nat → Bool) :
    Meets (Builtin.«tuple.__lt__» ⟨[.ref l, .ref b], []⟩)
      (fun A R s => s.heap.get? l = some { cls := .type "tuple", dict := dd, data := .seq items n, slots := sl } ∧ s.heap.get? b = some { cls := .type "tuple", dict := dd2, data := .seq items2 n2, slots := sl2 } ∧
        (∀ j (h1 : j < items.size) (h2 : j < items2.size), EqAt A.in1 s items[j] items2[j] (e j) ∧ (e j = false → LtAt A.in1 s items[j] items2[j] (f j))) ∧
        R (.ok (.ret (.bool (lexAt e f (decide (items.size < items2.size)) 0 (min items.size items2.size))))) s) :=
  .of_wp fun prog w A R s h => by
    obtain ⟨hp, g, d, tk, os⟩ := s; obtain ⟨hl, hb, he, h⟩ := h
    have f2 := AutoSeq1.sub_tuple_tuple
    have hZ : (items.toList.zip items2.toList).length = min items.size items2.size := by simp
    wp_walk using wpAny_loadPart' hl, wpAny_loadPart' hb, wpAny_forIn_list _ (fun rest b s' => b.1 = none ∧ s' = ⟨hp, g, d, tk, os⟩ ∧ ∃ i, A3 (i ≤ min items.size items2.size) (rest = (items.toList.zip items2.toList).drop i) (R (.ok (.ret (.bool (lexAt e f (decide (items.size < items2.size)) i (min items.size items2.size - i))))) ⟨hp, g, d, tk, os⟩)) _
    case turn =>
      rintro q0_ rest b s' q4_
      refine hide fun P_ hP_ => ?_
      obtain ⟨y, x⟩ := q0_
      obtain ⟨hb', rfl, i, hi, hz, hR⟩ := q4_
      refine hP_ ?_
      clear hP_ P_
      have hlt : i < (items.toList.zip items2.toList).length := by
        rcases Nat.lt_or_ge i (items.toList.zip items2.toList).length with h' | h'
        · exact h'
        · rw [List.drop_of_length_le h'] at hz; cases hz
      have hm : i < min items.size items2.size := hZ ▸ hlt
      have h1 : i < items.size := Nat.lt_of_lt_of_le hm (Nat.min_le_left _ _)
      have h2 : i < items2.size := Nat.lt_of_lt_of_le hm (Nat.min_le_right _ _)
      rw [List.drop_eq_getElem_cons hlt] at hz
      injection hz with hyx hrest
      have hy : y = items[i] := by have := congrArg Prod.fst hyx; simpa using this
      have hx : x = items2[i] := by have := congrArg Prod.snd hyx; simpa using this
      subst hy hx
      obtain ⟨k, hk⟩ : ∃ k, min items.size items2.size - i = k + 1 := ⟨min items.size items2.size - i - 1, by (first | lia | omega)⟩
      rw [hk, lexAt] at hR
      refine wpAny_bind ((he i h1 h2).1 prog w _ _ ?_)
      cases hy : e i with
      | true =>
        rw [hy] at hR
        wp_walk
        exact ⟨rfl, rfl, i + 1, hm, hrest, by
          have : min items.size items2.size - (i + 1) = k := by (first | lia | omega)
          rw [this]; simpa using hR⟩
      | false =>
        rw [hy] at hR
        simp only [Bool.not_false, if_true]
        refine wpAny_bind (wpAny_rule ?_)
        refine wpAny_bind ((he i h1 h2).2 hy prog w _ _ ?_)
        wp_walk
        exact ⟨_, rfl, by simpa using hR⟩
    case fin =>
      rintro q0_ s' q2_
      refine hide fun P_ hP_ => ?_
      obtain ⟨b1, b2⟩ := q0_
      obtain ⟨hb', rfl, i, hi, hz, hR⟩ := q2_
      refine hP_ ?_
      clear hP_ P_
      simp only at hb'
      subst hb'
      have hge : min items.size items2.size ≤ i := by
        rcases Nat.lt_or_ge i (items.toList.zip items2.toList).length with h' | h'
        · rw [List.drop_eq_getElem_cons h'] at hz; cases hz
        · exact hZ ▸ h'
      have h0 : min items.size items2.size - i = 0 := by (first | lia | omega)
      rw [h0, lexAt] at hR
      wp_walk
      exact ⟨_, rfl, by simpa [Builtin.Tuple.tupleCompareSizes] using hR⟩
    case h =>
      exact ⟨rfl, rfl, 0, Nat.zero_le _, rfl, by simpa using h⟩

theorem lt_loopAt (l b : Addr) (items items2 : Array Value) (n n2 : Nat) (dd dd2 : Option Addr) (sl sl2 : Array (Option Value)) (e f : Nat → Bool) (k : Nat) :
    ∀ i : Nat, i ≤ min items.size items2.size → min items.size items2.size - i = k → Meets (Builtin.«list.__eq__.loop» ⟨[.ref l, .ref b, rawInt i, rawInt 0], []⟩)
      (fun A R s => s.heap.get? l = some { cls := .type "list", dict := dd, data := .seq items n, slots := sl } ∧ s.heap.get? b = some { cls := .type "list", dict := dd2, data := .seq items2 n2, slots := sl2 } ∧
        (∀ j (h1 : j < items.size) (h2 : j < items2.size), EqAt A.in1 s items[j] items2[j] (e j) ∧ (e j = false → LtAt A.in1 s items[j] items2[j] (f j))) ∧
        R (.ok (.ret (.bool (lexAt e f (decide (items.size < items2.size)) i (min items.size items2.size - i))))) s) := by
  induction k with
  | zero =>
    intro i hi hk prog w A R s h
    obtain ⟨hp, g, d, tk, os⟩ := s; obtain ⟨hl, hb, he, h⟩ := h
    wp_walk using wpAny_loadPart' hl, wpAny_loadPart' hb
    have h0 : lexAt e f (decide (items.size < items2.size)) i (min items.size items2.size - i) = decide (items.size < items2.size) := by rw [hk]; rfl
    rw [h0] at h
    have hnat : ((i : Nat) : Int).toNat = i := by simp
    rw [hnat]
    by_cases h1 : i < items.size
    · have h2 : items2[i]? = none := by simp; (first | lia | omega)
      have h1' : items[i]? = some items[i] := by simp [h1]
      rw [h1', h2]
      wp_walk using wpAny_loadPart' hl, wpAny_loadPart' hb
      exact h
    · have h1' : items[i]? = none := by simp; (first | lia | omega)
      rw [h1']
      wp_walk using wpAny_loadPart' hl, wpAny_loadPart' hb
      exact h
  | succ k ih =>
    intro i hi hk prog w A R s h
    obtain ⟨hp, g, d, tk, os⟩ := s; obtain ⟨hl, hb, he, h⟩ := h
    wp_walk using wpAny_loadPart' hl, wpAny_loadPart' hb
    have hlt : i < items.size := by (first | lia | omega)
    have hlt2 : i < items2.size := by (first | lia | omega)
    have hi1 : items[((i : Nat) : Int).toNat]? = some items[i] := by simp [hlt]
    have hi2 : items2[((i : Nat) : Int).toNat]? = some items2[i] := by simp [hlt2]
    have hc : ((i : Int) + 1) = ((i + 1 : Nat) : Int) := by push_cast; rfl
    rw [hk, lexAt] at h
    rw [hi1, hi2]
    refine wpAny_bind ((he i hlt hlt2).1 prog w _ _ ?_)
    cases hb' : e i with
    | true =>
      rw [hb'] at h
      wp_walk
      rw [hc]
      exact ⟨plainId_quiet plain_eq_loop _, codeAny_builtin entry_eq_loop (by
        rw [Around.under_plainId plain_eq_loop _]
        have hk' : min items.size items2.size - (i + 1) = k := by (first | lia | omega)
        exact ih (i + 1) (by (first | lia | omega)) hk' prog w A R _ ⟨hl, hb, he, by rw [hk']; simpa using h⟩)⟩
    | false =>
      rw [hb'] at h
      rw [if_neg (by simp)]
      refine wpAny_bind (listItems_at hl rfl (wpAny_bind (listItems_at hb rfl ?_)))
      rw [hi1, hi2]
      dsimp only
      refine wpAny_bind ((he i hlt hlt2).2 hb' prog w _ _ ?_)
      simp only [Bool.false_eq_true, if_false] at h
      exact wpAny_pure h

theorem list_ltAt (l b : Addr) (items items2 : Array Value) (n n2 : Nat) (dd dd2 : Option Addr) (sl sl2 : Array (Option Value)) (e f : Nat → Bool) :
    Meets (Builtin.«list.__lt__» ⟨[.ref l, .ref b], []⟩)
      (fun A R s => s.heap.get? l = some { cls := .type "list", dict := dd, data := .seq items n, slots := sl } ∧ s.heap.get? b = some { cls := .type "list", dict := dd2, data := .seq items2 n2, slots := sl2 } ∧
        (∀ j (h1 : j < items.size) (h2 : j < items2.size), EqAt A.in1 s items[j] items2[j] (e j) ∧ (e j = false → LtAt A.in1 s items[j] items2[j] (f j))) ∧
        R (.ok (.ret (.bool (lexAt e f (decide (items.size < items2.size)) 0 (min items.size items2.size))))) s) := by
  intro prog w A R s h
  obtain ⟨hp, g, d, tk, os⟩ := s; obtain ⟨hl, hb, he, h⟩ := h
  have f3 := AutoSeq1.sub_list_list
  wp_walk
  exact ⟨plainId_quiet plain_eq_loop _, codeAny_builtin entry_eq_loop (by
    rw [Around.under_plainId plain_eq_loop _]
    exact lt_loopAt l b items items2 n n2 dd dd2 sl sl2 e f _ 0 (Nat.zero_le _) rfl prog w A R _ ⟨hl, hb, he, by simpa using h⟩)⟩

section
variable {A : Around} {s : Shared}
theorem LtAt.tuples {l b : Addr} {items items2 : Array Value} {e f : Nat → Bool} (hl : s.heap.IsTuple l items) (hb : s.heap.IsTuple b items2) (hu : A.units < cLine)
    (he : ∀ j (h1 : j < items.size) (h2 : j < items2.size), EqAt A.in1 s items[j] items2[j] (e j) ∧ (e j = false → LtAt A.in1 s items[j] items2[j] (f j))) :
    LtAt A s (.ref l) (.ref b) (lexAt e f (decide (items.size < items2.size)) 0 (min items.size items2.size)) := fun prog w E Q h => by
  refine hide fun P_ hP_ => ?_
  obtain ⟨⟨cls, dd, data, sl⟩, ho, hc, n, hd⟩ := id hl
  refine hP_ ?_
  clear hP_ P_
  refine hide fun P_ hP_ => ?_
  obtain ⟨⟨cls2, dd2, data2, sl2⟩, ho2, hc2, n2, hd2⟩ := id hb
  refine hP_ ?_
  clear hP_ P_
  simp only at hc hd hc2 hd2
  subst hc hd hc2 hd2
  exact richCompare_meets_room (op := .Lt) ⟨_, ho, rfl⟩ ⟨_, ho2, rfl⟩ F.slot_tuple_lt F.entry_tuple_lt (F.args_tuple_lt_2 _ _) (tuple_ltAt l b items items2 n n2 dd dd2 sl sl2 e f)
    ⟨ho, ho2, he, show Value.bool (lexAt e f (decide (items.size < items2.size)) 0 (min items.size items2.size)) ≠ Value.notImplemented ∧ Q (.bool (lexAt e f (decide (items.size < items2.size)) 0 (min items.size items2.size))) s from ⟨(fun x => nomatch x), h⟩⟩ hu
theorem LtAt.lists {l b : Addr} {items items2 : Array Value} {e f : Nat → Bool} (hl : s.heap.IsList l items) (hb : s.heap.IsList b items2) (hu : A.units < cLine)
    (he : ∀ j (h1 : j < items.size) (h2 : j < items2.size), EqAt A.in1 s items[j] items2[j] (e j) ∧ (e j = false → LtAt A.in1 s items[j] items2[j] (f j))) :
    LtAt A s (.ref l) (.ref b) (lexAt e f (decide (items.size < items2.size)) 0 (min items.size items2.size)) := fun prog w E Q h => by
  refine hide fun P_ hP_ => ?_
  obtain ⟨⟨cls, dd, data, sl⟩, ho, hc, n, hd⟩ := id hl
  refine hP_ ?_
  clear hP_ P_
  refine hide fun P_ hP_ => ?_
  obtain ⟨⟨cls2, dd2, data2, sl2⟩, ho2, hc2, n2, hd2⟩ := id hb
  refine hP_ ?_
  clear hP_ P_
  simp only at hc hd hc2 hd2
  subst hc hd hc2 hd2
  exact richCompare_meets_room (op := .Lt) ⟨_, ho, rfl⟩ ⟨_, ho2, rfl⟩ F.slot_list_lt F.entry_list_lt (F.args_list_lt_2 _ _) (list_ltAt l b items items2 n n2 dd dd2 sl sl2 e f)
    ⟨ho, ho2, he, show Value.bool (lexAt e f (decide (items.size < items2.size)) 0 (min items.size items2.size)) ≠ Value.notImplemented ∧ Q (.bool (lexAt e f (decide (items.size < items2.size)) 0 (min items.size items2.size))) s from ⟨(fun x => nomatch x), h⟩⟩ hu
end
end Mine
namespace Mine
open PySem.SeqAt Classical

abbrev Zone := Addr → Option Obj
abbrev lobj (vs : List Value) (n : Nat) : Obj := { cls := .type "list", dict := none, data := .seq vs.toArray n, slots := #[] }
abbrev tobj (vs : List Value) (n : Nat) : Obj := { cls := .type "tuple", dict := none, data := .seq vs.toArray n, slots := #[] }

theorem seq_inj {vs us : List Value} {n k : Nat} {c c' : Value} {d d' : Option Addr} {sl sl' : Array (Option Value)} (h : (⟨c, d, .seq vs.toArray n, sl⟩ : Obj) = ⟨c', d', .seq us.toArray k, sl'⟩) : vs = us := by
  have := congrArg (fun o : Obj => match o.data with | .seq xs _ => xs.toList | _ => []) h
  simpa using this

mutual
inductive Rv (Z : Zone) : Value → D → Prop
  | none : Rv Z .none .none
  | bool (b) : Rv Z (.bool b) (.bool b)
  | int (i t) : Rv Z (.int i t) (.int i)
  | tup {a vs n ds} : Z a = some (tobj vs n) → Rvs Z vs ds → Rv Z (.ref a) (.tup ds)
  | lst {a vs n ds} : Z a = some (lobj vs n) → Rvs Z vs ds → Rv Z (.ref a) (.lst ds)
inductive Rvs (Z : Zone) : List Value → List D → Prop
  | nil : Rvs Z [] []
  | cons {v d vs ds} : Rv Z v d → Rvs Z vs ds → Rvs Z (v :: vs) (d :: ds)
end

def Ext (Z Z' : Zone) : Prop := ∀ a o, Z a = some o → Z' a = some o
theorem Ext.refl (Z : Zone) : Ext Z Z := fun _ _ h => h
theorem Ext.trans {Z Z' Z'' : Zone} (h : Ext Z Z') (h2 : Ext Z' Z'') : Ext Z Z'' := fun a o e => h2 a o (h a o e)

section
variable {Z : Zone}
theorem Rv.lstE {ds : List D} {motive : ∀ u, Rv Z u (.lst ds) → Prop} (lst : ∀ {a vs n} (e : Z a = some (lobj vs n)) (r : Rvs Z vs ds), motive (.ref a) (.lst e r)) {u : Value} (h : Rv Z u (.lst ds)) : motive u h := by
  cases h; exact lst ‹_› ‹_›
theorem Rv.tupE {ds : List D} {motive : ∀ u, Rv Z u (.tup ds) → Prop} (tup : ∀ {a vs n} (e : Z a = some (tobj vs n)) (r : Rvs Z vs ds), motive (.ref a) (.tup e r)) {u : Value} (h : Rv Z u (.tup ds)) : motive u h := by
  cases h; exact tup ‹_› ‹_›
theorem Rv.intE {i : Int} {motive : ∀ u, Rv Z u (.int i) → Prop} (int : ∀ t, motive (.int i t) (.int i t)) {u : Value} (h : Rv Z u (.int i)) : motive u h := by
  cases h; exact int _
theorem Rv.boolE {b : Bool} {motive : ∀ u, Rv Z u (.bool b) → Prop} (bool : motive (.bool b) (.bool b)) {u : Value} (h : Rv Z u (.bool b)) : motive u h := by
  cases h; exact bool
theorem Rv.noneE {motive : ∀ u, Rv Z u .none → Prop} (none : motive .none .none) {u : Value} (h : Rv Z u .none) : motive u h := by
  cases h; exact none
theorem Rvs.nilE {motive : ∀ vs, Rvs Z vs [] → Prop} (nil : motive [] .nil) {vs : List Value} (h : Rvs Z vs []) : motive vs h := by
  cases h; exact nil
theorem Rvs.consE {d : D} {ds : List D} {motive : ∀ vs, Rvs Z vs (d :: ds) → Prop} (cons : ∀ {v vs} (h : Rv Z v d) (r : Rvs Z vs ds), motive (v :: vs) (.cons h r)) {vs : List Value} (h : Rvs Z vs (d :: ds)) : motive vs h := by
  cases h; exact cons ‹_› ‹_›
theorem Rvs.ind {motive : ∀ vs ds, Rvs Z vs ds → Prop} (nil : motive [] [] .nil) (cons : ∀ {v d vs ds} (h : Rv Z v d) (r : Rvs Z vs ds) (ih : motive vs ds r), motive (v :: vs) (d :: ds) (.cons h r)) {vs : List Value} {ds : List D} (r : Rvs Z vs ds) : motive vs ds r :=
  Rvs.rec (motive_1 := fun _ _ _ => True) (motive_2 := motive) trivial (fun _ => trivial) (fun _ _ => trivial) (fun _ _ _ => trivial) (fun _ _ _ => trivial) nil (fun h r _ ih => cons h r ih) r
theorem Rv.mono {Z' : Zone} (x : Ext Z Z') {v d} (h : Rv Z v d) : Rv Z' v d :=
  Rv.rec (motive_1 := fun v d _ => Rv Z' v d) (motive_2 := fun vs ds _ => Rvs Z' vs ds) .none .bool .int (fun h _ r => .tup (x _ _ h) r) (fun h _ r => .lst (x _ _ h) r) .nil (fun _ _ h r => .cons h r) h
theorem Rvs.mono {Z' : Zone} (x : Ext Z Z') {vs ds} (r : Rvs Z vs ds) : Rvs Z' vs ds := by
  induction r using Rvs.ind with
  | nil => exact .nil
  | cons h _ ih => exact .cons (h.mono x) ih
theorem Rvs.length {vs ds} (r : Rvs Z vs ds) : vs.length = ds.length := by
  induction r using Rvs.ind with
  | nil => rfl
  | cons _ _ ih => exact congrArg (· + 1) ih
theorem Rvs.append {vs ds us es} (r : Rvs Z vs ds) (r2 : Rvs Z us es) : Rvs Z (vs ++ us) (ds ++ es) := by
  induction r using Rvs.ind with
  | nil => exact r2
  | cons h _ ih => exact .cons h ih
theorem Rvs.get {vs : List Value} {ds : List D} (r : Rvs Z vs ds) {i : Nat} {d : D} (e : ds[i]? = some d) : ∃ v, vs[i]? = some v ∧ Rv Z v d := by
  induction r using Rvs.ind generalizing i with
  | nil => cases e
  | cons h _ ih => cases i with
    | zero => cases e; exact ⟨_, rfl, h⟩
    | succ i => exact ih e
theorem Rvs.getElem {vs : List Value} {ds : List D} (r : Rvs Z vs ds) {i : Nat} (h1 : i < vs.length) (h2 : i < ds.length) : Rv Z vs[i] ds[i] := by
  obtain ⟨v, e, h⟩ := r.get (List.getElem?_eq_getElem h2)
  rw [List.getElem?_eq_getElem h1] at e
  cases e; exact h
theorem Rvs.set {vs ds} (r : Rvs Z vs ds) {i v d} (h2 : Rv Z v d) : Rvs Z (vs.set i v) (ds.set i d) := by
  induction r using Rvs.ind generalizing i with
  | nil => exact .nil
  | cons h r ih => cases i with
    | zero => exact .cons h2 r
    | succ i => exact .cons h ih
theorem Rvs.take {vs ds} (r : Rvs Z vs ds) {i} : Rvs Z (vs.take i) (ds.take i) := by
  induction r using Rvs.ind generalizing i with
  | nil => rw [List.take_nil, List.take_nil]; exact .nil
  | cons h r ih => cases i with
    | zero => exact .nil
    | succ i => exact .cons h ih
theorem Rvs.drop {vs ds} (r : Rvs Z vs ds) {i} : Rvs Z (vs.drop i) (ds.drop i) := by
  induction r using Rvs.ind generalizing i with
  | nil => rw [List.drop_nil, List.drop_nil]; exact .nil
  | cons h r ih => cases i with
    | zero => exact .cons h r
    | succ i => exact ih
theorem Rvs.reverse {vs ds} (r : Rvs Z vs ds) : Rvs Z vs.reverse ds.reverse := by
  induction r using Rvs.ind with
  | nil => exact .nil
  | cons h _ ih => rw [List.reverse_cons, List.reverse_cons]; exact ih.append (.cons h .nil)
theorem Rv.tup_lst {a : Addr} {vs us : List Value} {n k : Nat} {P : Prop} (h : Z a = some (tobj vs n)) (h' : Z a = some (lobj us k)) : P := by
  rw [h] at h'
  injection h' with h'
  simp at h'
theorem Rv.same {o o' : Obj} {a : Addr} (h : Z a = some o) (h' : Z a = some o') : o = o' := Option.some.inj (h.symm.trans h')
theorem Rv.refE {a : Addr} {motive : D → Prop} (tup : ∀ {vs n ds} (e : Z a = some (tobj vs n)) (r : Rvs Z vs ds), motive (.tup ds)) (lst : ∀ {vs n ds} (e : Z a = some (lobj vs n)) (r : Rvs Z vs ds), motive (.lst ds)) {d : D} (h : Rv Z (.ref a) d) : motive d := by
  cases h
  · exact tup ‹_› ‹_›
  · exact lst ‹_› ‹_›
theorem Rv.det {v d} (h : Rv Z v d) : ∀ {e}, Rv Z v e → d = e :=
  Rv.rec (motive_1 := fun v d _ => ∀ {e}, Rv Z v e → d = e) (motive_2 := fun vs ds _ => ∀ {es}, Rvs Z vs es → ds = es)
    (fun h => by cases h; rfl) (fun _ _ h => by cases h; rfl) (fun _ _ _ h => by cases h; rfl)
    (fun h _ ih _ h2 => h2.refE (fun h' r' => congrArg D.tup (ih (seq_inj (Rv.same h h') ▸ r'))) fun h' _ => Rv.tup_lst h h')
    (fun h _ ih _ h2 => h2.refE (fun h' _ => Rv.tup_lst h' h) fun h' r' => congrArg D.lst (ih (seq_inj (Rv.same h h') ▸ r')))
    (fun h => by cases h; rfl) (fun _ _ ih ihr _ h2 => by cases h2 with | cons h' r' => rw [ih h', ihr r']) h
theorem Rvs.det {vs ds} (r : Rvs Z vs ds) {es} (h : Rvs Z vs es) : ds = es := by
  induction r using Rvs.ind generalizing es with
  | nil => cases h; rfl
  | cons h1 _ ih => cases h with
    | cons h' r' => rw [h1.det h', ih r']
end

theorem isTup_of {Z : Zone} {h : Heap} (k : ∀ a o, Z a = some o → h.get? a = some o) {a : Addr} {vs : List Value} {n : Nat} (e : Z a = some (tobj vs n)) : h.IsTuple a vs.toArray := ⟨_, k _ _ e, rfl, n, rfl⟩
theorem isList_of {Z : Zone} {h : Heap} (k : ∀ a o, Z a = some o → h.get? a = some o) {a : Addr} {vs : List Value} {n : Nat} (e : Z a = some (lobj vs n)) : h.IsList a vs.toArray := ⟨_, k _ _ e, rfl, n, rfl⟩

theorem Hass.length : ∀ {ts ds}, Hass ts ds → ts.length = ds.length
  | [], [], _ => rfl
  | _ :: _, _ :: _, h => by simp only [Hass] at h; simp [h.2.length]
  | [], _ :: _, h => by simp [Hass] at h
  | _ :: _, [], h => by simp [Hass] at h
theorem Hass.get : ∀ {ts : List Ty} {ds : List D}, Hass ts ds → ∀ {i : Nat} {t : Ty} {d : D}, ts[i]? = some t → ds[i]? = some d → Has t d
  | [], [], _, i, t, d, h, _ => by simp at h
  | t :: ts, d :: ds, h, 0, _, _, e1, e2 => by
    simp only [Hass] at h; simp at e1 e2; subst e1 e2; exact h.1
  | t :: ts, d :: ds, h, i + 1, _, _, e1, e2 => by
    simp only [Hass] at h; simp at e1 e2; exact h.2.get e1 e2
  | [], _ :: _, h, _, _, _, _, _ => by simp [Hass] at h
  | _ :: _, [], h, _, _, _, _, _ => by simp [Hass] at h
theorem Tys.depth_get : ∀ {ts : List Ty} {i : Nat} {t : Ty}, ts[i]? = some t → t.depth ≤ Tys.depth ts
  | [], i, t, h => by simp at h
  | u :: ts, 0, t, h => by simp at h; subst h; simp only [Tys.depth]; (first | lia | omega)
  | u :: ts, i + 1, t, h => by simp at h; have := depth_get h; simp only [Tys.depth]; (first | lia | omega)

theorem eqAt_int {A : Around} {s : Shared} {a b : Int} {t u : Tok} : EqAt A s (.int a t) (.int b u) (decide (D.int a = D.int b)) := by
  have e : (decide (D.int a = D.int b)) = (a == b) := by
    rw [Bool.eq_iff_iff]; simp
  rw [e]
  exact (PySem.MeetsSeq.EqGives.int a b t u).at A s
theorem ltAt_int {A : Around} {s : Shared} {a b : Int} {t u : Tok} : LtAt A s (.int a t) (.int b u) (D.lt (.int a) (.int b)) := fun prog w E Q h => by
  rw [D.lt] at h
  exact wpAny_lt_int (t := t) (u := u) h

theorem dec_int (a b : Int) : (decide (D.int a = D.int b)) = (a == b) := by
  rw [Bool.eq_iff_iff]; simp
theorem rcAt_int {A : Around} {s : Shared} {a b : Int} {t u : Tok} : RcAt A s (.int a t) (.int b u) (decide (D.int a = D.int b)) := fun prog w E Q h => by
  rw [dec_int] at h
  exact wpAny_eq_int h
theorem rcNeAt_int {A : Around} {s : Shared} {a b : Int} {t u : Tok} : RcNeAt A s (.int a t) (.int b u) (!decide (D.int a = D.int b)) := by
  rw [dec_int]; exact RcNeAt.int_int a t b u

theorem all_getD_eq : ∀ (ds es : List D), ds.length = es.length → ((List.range ds.length).all fun j => decide (ds.getD j .none = es.getD j .none)) = decide (ds = es) := by
  intro ds es hl
  rw [Bool.eq_iff_iff]
  simp only [List.all_eq_true, List.mem_range, decide_eq_true_eq]
  constructor
  · intro h
    apply List.ext_getElem hl
    intro i h1 h2
    have := h i h1
    simpa [List.getD_eq_getElem?_getD, List.getElem?_eq_getElem h1, List.getElem?_eq_getElem h2] using this
  · rintro rfl j _; rfl

theorem lexAt_ds : ∀ (k i : Nat) (ds es : List D), min ds.length es.length - i = k → i ≤ min ds.length es.length →
    lexAt (fun j => decide (ds.getD j .none = es.getD j .none)) (fun j => D.lt (ds.getD j .none) (es.getD j .none)) (decide (ds.length < es.length)) i k = Ds.lt (ds.drop i) (es.drop i)
  | 0, i, ds, es, hk, hi => by
    rw [lexAt]
    by_cases h : ds.length < es.length
    · have h1 : ds.drop i = [] := by simp; (first | lia | omega)
      have h2 : es.drop i ≠ [] := by simp; (first | lia | omega)
      rw [h1]
      refine hide fun P_ hP_ => ?_
      obtain ⟨e, r, hr⟩ := List.exists_cons_of_ne_nil h2
      refine hP_ ?_
      clear hP_ P_
      rw [hr, Ds.lt]; simp [h]
    · have h1 : es.drop i = [] := by simp; (first | lia | omega)
      rw [h1]
      cases hd : ds.drop i with
      | nil => rw [Ds.lt]; simp [h]
      | cons a b => rw [Ds.lt]; simp [h]
  | k + 1, i, ds, es, hk, hi => by
    have h1 : i < ds.length := by (first | lia | omega)
    have h2 : i < es.length := by (first | lia | omega)
    rw [lexAt, lexAt_ds k (i + 1) ds es (by (first | lia | omega)) (by (first | lia | omega))]
    rw [List.drop_eq_getElem_cons h1, List.drop_eq_getElem_cons h2, Ds.lt]
    simp only [List.getD_eq_getElem?_getD, List.getElem?_eq_getElem h1, List.getElem?_eq_getElem h2, Option.getD_some, decide_eq_true_eq]

theorem rv_eq_lt : ∀ (n : Nat) (t : Ty), t.depth ≤ n → ∀ (A : Around) (Z : Zone) (s : Shared), (∀ a o, Z a = some o → s.heap.get? a = some o) → A.units + n < cLine →
    ∀ {v u d e}, Rv Z v d → Rv Z u e → Has t d → Has t e → EqAt A s v u (decide (d = e)) ∧ LtAt A s v u (D.lt d e) ∧ RcAt A s v u (decide (d = e)) ∧ RcNeAt A s v u (!decide (d = e)) := by
  intro n
  induction n with
  | zero =>
    intro t ht A Z s k hu v u d e hv hw hd he
    cases t with
    | int =>
      cases hv <;> simp only [Has] at hd
      cases hw <;> simp only [Has] at he
      exact ⟨eqAt_int, ltAt_int, rcAt_int, rcNeAt_int⟩
    | tup ts => simp [Ty.depth] at ht
    | lst t => simp [Ty.depth] at ht
  | succ n ih =>
    intro t ht A Z s k hu v u d e hv hw hd he
    cases t with
    | int =>
      cases hv <;> simp only [Has] at hd
      cases hw <;> simp only [Has] at he
      exact ⟨eqAt_int, ltAt_int, rcAt_int, rcNeAt_int⟩
    | tup ts =>
      cases hv <;> simp only [Has] at hd
      rename_i a vs n1 ds h1 r1
      cases hw <;> simp only [Has] at he
      rename_i b us n2 es h2 r2
      have l1 := r1.length; have l2 := r2.length
      have ld := hd.length; have le := he.length
      have elt : ∀ j (g1 : j < vs.toArray.size) (g2 : j < us.toArray.size), EqAt A.in1 s vs.toArray[j] us.toArray[j] (decide (ds.getD j .none = es.getD j .none)) ∧ LtAt A.in1 s vs.toArray[j] us.toArray[j] (D.lt (ds.getD j .none) (es.getD j .none)) := by
        intro j g1 g2
        rw [List.size_toArray] at g1 g2
        have g3 : j < ds.length := by (first | lia | omega)
        have g4 : j < es.length := by (first | lia | omega)
        have g5 : j < ts.length := by (first | lia | omega)
        have et : ts[j]? = some ts[j] := List.getElem?_eq_getElem g5
        have e1 : ds[j]? = some ds[j] := List.getElem?_eq_getElem g3
        have e2 : es[j]? = some es[j] := List.getElem?_eq_getElem g4
        have := ih ts[j] (by have := Tys.depth_get et; simp only [Ty.depth] at ht; (first | lia | omega)) A.in1 Z s k (by simp; (first | lia | omega)) (r1.getElem g1 g3) (r2.getElem g2 g4) (hd.get et e1) (he.get et e2)
        simpa [List.getD_eq_getElem?_getD, e1, e2] using And.intro this.1 this.2.1
      have e3 : ds.length = es.length := by lia
      have e4 : ((List.range (min vs.toArray.size us.toArray.size)).all (fun j => decide (ds.getD j .none = es.getD j .none)) && vs.toArray.size == us.toArray.size) = decide (D.tup ds = D.tup es) := by
        rw [List.size_toArray, List.size_toArray, l1, l2, e3, Nat.min_self, ← e3, all_getD_eq ds es e3]
        simp
      have rc : RcAt A s (.ref a) (.ref b) (decide (D.tup ds = D.tup es)) := e4 ▸ RcAt.tuples (isTup_of k h1) (isTup_of k h2) (by lia) fun j g1 g2 => (elt j g1 g2).1
      refine ⟨?_, ?_, rc, e4 ▸ RcNeAt.tuples (isTup_of k h1) (isTup_of k h2) (by lia) fun j g1 g2 => (elt j g1 g2).1⟩
      · by_cases hab : a = b
        · subst hab
          cases r1.det (seq_inj (Rv.same h1 h2) ▸ r2)
          simpa using EqAt.same (A := A) (s := s) (.ref a)
        · exact EqAt.of_refs hab rc
      · have := LtAt.tuples (A := A) (s := s) (isTup_of k h1) (isTup_of k h2) (by lia) fun j g1 g2 => ⟨(elt j g1 g2).1, fun _ => (elt j g1 g2).2⟩
        rw [List.size_toArray, List.size_toArray, l1, l2, lexAt_ds (min ds.length es.length) 0 ds es (Nat.sub_zero _) (Nat.zero_le _)] at this
        rw [D.lt]
        simpa using this
    | lst t =>
      cases hv <;> simp only [Has] at hd
      rename_i a vs n1 ds h1 r1
      cases hw <;> simp only [Has] at he
      rename_i b us n2 es h2 r2
      have l1 := r1.length; have l2 := r2.length
      have elt : ∀ j (g1 : j < vs.toArray.size) (g2 : j < us.toArray.size), EqAt A.in1 s vs.toArray[j] us.toArray[j] (decide (ds.getD j .none = es.getD j .none)) ∧ LtAt A.in1 s vs.toArray[j] us.toArray[j] (D.lt (ds.getD j .none) (es.getD j .none)) := by
        intro j g1 g2
        rw [List.size_toArray] at g1 g2
        have g3 : j < ds.length := by (first | lia | omega)
        have g4 : j < es.length := by (first | lia | omega)
        have e1 : ds[j]? = some ds[j] := List.getElem?_eq_getElem g3
        have e2 : es[j]? = some es[j] := List.getElem?_eq_getElem g4
        have := ih t (by simp only [Ty.depth] at ht; (first | lia | omega)) A.in1 Z s k (by simp; (first | lia | omega)) (r1.getElem g1 g3) (r2.getElem g2 g4) (hd _ (List.getElem_mem g3)) (he _ (List.getElem_mem g4))
        simpa [List.getD_eq_getElem?_getD, e1, e2] using And.intro this.1 this.2.1
      have rc : RcAt A s (.ref a) (.ref b) (decide (D.lst ds = D.lst es)) ∧ RcNeAt A s (.ref a) (.ref b) (!decide (D.lst ds = D.lst es)) := by
        by_cases e3 : ds.length = es.length
        · have e4 : ((List.range vs.toArray.size).all fun j => decide (ds.getD j .none = es.getD j .none)) = decide (D.lst ds = D.lst es) := by
            rw [List.size_toArray, l1, all_getD_eq ds es e3]; simp
          have hz : vs.toArray.size = us.toArray.size := by rw [List.size_toArray, List.size_toArray]; lia
          exact ⟨e4 ▸ RcAt.lists (isList_of k h1) (isList_of k h2) hz (by lia) fun j g1 g2 => (elt j g1 g2).1, e4 ▸ RcNeAt.lists (isList_of k h1) (isList_of k h2) hz (by lia) fun j g1 g2 => (elt j g1 g2).1⟩
        · have e4 : decide (D.lst ds = D.lst es) = false := decide_eq_false fun q => e3 (congrArg List.length (D.lst.inj q))
          have hz : vs.toArray.size ≠ us.toArray.size := by rw [List.size_toArray, List.size_toArray]; lia
          rw [e4]
          exact ⟨RcAt.lists_lengths (isList_of k h1) (isList_of k h2) (by simpa using hz) (by lia), RcNeAt.lists_lengths (isList_of k h1) (isList_of k h2) (by simpa using hz) (by lia)⟩
      refine ⟨?_, ?_, rc⟩
      · by_cases hab : a = b
        · subst hab
          cases r1.det (seq_inj (Rv.same h1 h2) ▸ r2)
          simpa using EqAt.same (A := A) (s := s) (.ref a)
        · exact EqAt.of_refs hab rc.1
      · have := LtAt.lists (A := A) (s := s) (isList_of k h1) (isList_of k h2) (by lia) fun j g1 g2 => ⟨(elt j g1 g2).1, fun _ => (elt j g1 g2).2⟩
        rw [List.size_toArray, List.size_toArray, l1, l2, lexAt_ds (min ds.length es.length) 0 ds es (Nat.sub_zero _) (Nat.zero_le _)] at this
        rw [D.lt]
        simpa using this
end Mine
namespace Mine
open PySem.SeqAt Classical

/-! ### values, variables, store -/
inductive V : Type where
  | d (x : D)
  | raw (v : Value)
def RV (Z : Zone) (u : Value) : V → Prop
  | .d x => Rv Z u x
  | .raw v => u = v
theorem RV.mono {Z Z' : Zone} (x : Ext Z Z') {u : Value} : ∀ {v : V}, RV Z u v → RV Z' u v
  | .d _, h => Rv.mono x h
  | .raw _, h => h
inductive RVs (Z : Zone) : List Value → List V → Prop
  | nil : RVs Z [] []
  | cons {u v us vs} : RV Z u v → RVs Z us vs → RVs Z (u :: us) (v :: vs)
theorem mem1 {P : Addr → Prop} {x : Addr} (h : P x) : ∀ b ∈ [x], P b := fun b hb => by cases List.mem_singleton.mp hb; exact h
theorem mem2 {P : Addr → Prop} {x y : Addr} (h : P x) (h2 : P y) : ∀ b ∈ [x, y], P b := fun b hb => (List.mem_cons.mp hb).elim (fun e => e ▸ h) (mem1 h2 b)
theorem ne_mem1 {x b : Addr} {l : List Addr} (h : b ∉ x :: l) : b ≠ x := fun e => h (e ▸ .head _)
theorem RVs.nilE {Z : Zone} {motive : ∀ us, RVs Z us [] → Prop} (nil : motive [] .nil) {us : List Value} (h : RVs Z us []) : motive us h := by
  cases h; exact nil
theorem RVs.consE {Z : Zone} {v : V} {vs : List V} {motive : ∀ us, RVs Z us (v :: vs) → Prop} (cons : ∀ {u us} (h : RV Z u v) (r : RVs Z us vs), motive (u :: us) (.cons h r)) {us : List Value} (h : RVs Z us (v :: vs)) : motive us h := by
  cases h; exact cons ‹_› ‹_›
theorem RVs.mono {Z Z' : Zone} (x : Ext Z Z') {us : List Value} {vs : List V} (h : RVs Z us vs) : RVs Z' us vs := by
  induction h with
  | nil => exact .nil
  | cons h _ ih => exact .cons (h.mono x) ih
theorem RVs.length {Z : Zone} {us : List Value} {vs : List V} (h : RVs Z us vs) : us.length = vs.length := by
  induction h with
  | nil => rfl
  | cons _ _ ih => simp [ih]
theorem RVs.ds {Z : Zone} {us : List Value} : ∀ {ds : List D}, RVs Z us (ds.map V.d) → Rvs Z us ds := by
  intro ds h
  generalize hv : ds.map V.d = vs at h
  induction h generalizing ds with
  | nil => cases ds with
    | nil => exact .nil
    | cons a b => simp at hv
  | cons h _ ih => cases ds with
    | nil => simp at hv
    | cons a b =>
      simp only [List.map_cons, List.cons.injEq] at hv
      obtain ⟨rfl, hv⟩ := hv
      exact .cons h (ih hv)

abbrev Vars := String → Option V
def Vars.set (ρ : Vars) (x : String) (v : V) : Vars := fun y => if y = x then some v else ρ y
@[simp] theorem Vars.set_self (ρ : Vars) (x : String) (v : V) : ρ.set x v x = some v := by simp [Vars.set]
@[simp] theorem Vars.set_ne (ρ : Vars) {x y : String} (v : V) (h : y ≠ x) : ρ.set x v y = ρ y := by simp [Vars.set, h]
abbrev Sto := Addr → Option (List D)
def Sto.set (σ : Sto) (a : Addr) (l : List D) : Sto := fun b => if b = a then some l else σ b
def Sto.del (σ : Sto) (a : Addr) : Sto := fun b => if b = a then none else σ b
@[simp] theorem Sto.set_self (σ : Sto) (a : Addr) (l : List D) : σ.set a l a = some l := by simp [Sto.set]
theorem Sto.set_ne (σ : Sto) {a b : Addr} (l : List D) (h : b ≠ a) : σ.set a l b = σ b := by simp [Sto.set, h]
@[simp] theorem Sto.set_set (σ : Sto) (a : Addr) (l l' : List D) : (σ.set a l).set a l' = σ.set a l' := by
  funext b; simp only [Sto.set]; split <;> rfl
theorem Sto.set_comm (σ : Sto) {a b : Addr} (l l' : List D) (h : a ≠ b) : (σ.set a l).set b l' = (σ.set b l').set a l := by
  funext c; simp only [Sto.set]
  by_cases h1 : c = a <;> by_cases h2 : c = b <;> simp_all
theorem Sto.set_same (σ : Sto) {a : Addr} {l : List D} (h : σ a = some l) : σ.set a l = σ := by
  funext b; simp only [Sto.set]; split
  · rename_i e; rw [e, h]
  · rfl
theorem Sto.del_set (σ : Sto) {a : Addr} {l : List D} (h : σ a = none) : (σ.set a l).del a = σ := by
  funext b; simp only [Sto.set, Sto.del]; split
  · rename_i e; rw [e, h]
  · rfl
theorem ofString_inj {x y : String} (h : Str.ofString x = Str.ofString y) : x = y := by
  rw [Str.ofString_eq_toList, Str.ofString_eq_toList] at h
  have h1 : x.toList.map Char.toNat = y.toList.map Char.toNat := by
    have := congrArg (fun s : Str => s.cps.toList) h
    simpa using this
  have h2 : x.toList = y.toList := by
    apply List.map_inj_right (f := Char.toNat) (fun a b e => Char.toNat_inj.mp e) |>.mp h1
  exact String.toList_inj.mp h2

/-! ### the ground of a state -/
def Zone.put (Z : Zone) (a : Addr) (o : Obj) : Zone := fun b => if b = a then some o else Z b
theorem Zone.put_self (Z : Zone) (a : Addr) (o : Obj) : Z.put a o a = some o := by simp [Zone.put]
theorem Zone.ext_put {Z : Zone} {a : Addr} {o : Obj} (h : Z a = none) : Ext Z (Z.put a o) := fun b x e => by
  simp only [Zone.put]
  split
  · rename_i q; rw [q, h] at e; cases e
  · exact e

structure G (r0 : Shared) (Z Y : Zone) (σ : Sto) (s : Shared) : Prop where
  same : s = { r0 with heap := s.heap, toks := s.toks }
  base : ∀ a o, r0.heap.get? a = some o → Z a = some o
  keep : ∀ a o, Z a = some o → s.heap.get? a = some o
  keepY : ∀ a o, Y a = some o → s.heap.get? a = some o
  zy : ∀ a o, Y a = some o → Z a = none
  lists : ∀ a l, σ a = some l → Z a = none ∧ Y a = none ∧ E2 fun vs n => s.heap.get? a = some (lobj vs n) ∧ Rvs Z vs l

section
variable {r0 : Shared} {Z Y : Zone} {σ : Sto} {s : Shared} {h' : Heap} {tk : Nat}
theorem G.fresh (g : G r0 Z Y σ s) {a : Addr} (h : s.heap.get? a = none) : Z a = none ∧ Y a = none ∧ σ a = none := by
  refine ⟨?_, ?_, ?_⟩
  · cases q : Z a with
    | none => rfl
    | some o => rw [g.keep a o q] at h; cases h
  · cases q : Y a with
    | none => rfl
    | some o => rw [g.keepY a o q] at h; cases h
  · cases q : σ a with
    | none => rfl
    | some l => obtain ⟨-, -, vs, n, e, -⟩ := g.lists a l q; rw [e] at h; cases h
theorem G.grow (g : G r0 Z Y σ s) (k : ∀ b o, s.heap.get? b = some o → h'.get? b = some o) : G r0 Z Y σ { s with heap := h', toks := tk } where
  same := by rw [g.same]
  base := g.base
  keep := fun a o e => k a o (g.keep a o e)
  keepY := fun a o e => k a o (g.keepY a o e)
  zy := g.zy
  lists := fun a l e => let ⟨h1, h2, vs, n, h3, h4⟩ := g.lists a l e; ⟨h1, h2, vs, n, k _ _ h3, h4⟩
theorem G.tok (g : G r0 Z Y σ s) : G r0 Z Y σ { s with toks := tk } := g.grow fun _ _ e => e
/-- a fresh object joins the zone -/
theorem G.put (g : G r0 Z Y σ s) {a : Addr} {o : Obj} (hf : s.heap.get? a = none) (k : ∀ b o, s.heap.get? b = some o → h'.get? b = some o) (ho : h'.get? a = some o) :
    Ext Z (Z.put a o) ∧ G r0 (Z.put a o) Y σ { s with heap := h', toks := tk } := by
  refine hide fun P_ hP_ => ?_
  obtain ⟨f1, f2, f3⟩ := g.fresh hf
  refine hP_ ?_
  clear hP_ P_
  have x : Ext Z (Z.put a o) := Zone.ext_put f1
  refine ⟨x, (g.grow k).same, fun b o' e => x _ _ (g.base b o' e), fun b o' e => ?_, fun b o' e => k _ _ (g.keepY b o' e), fun b o' e => ?_, fun b l e => ?_⟩
  · simp only [Zone.put] at e
    split at e
    · rename_i q; cases e; rw [q]; exact ho
    · exact k _ _ (g.keep b o' e)
  · simp only [Zone.put]
    split
    · rename_i q; rw [q, f2] at e; cases e
    · exact g.zy b o' e
  · refine hide fun P_ hP_ => ?_
    obtain ⟨h1, h2, vs, n, h3, h4⟩ := g.lists b l e
    refine hP_ ?_
    clear hP_ P_
    refine ⟨?_, h2, vs, n, k _ _ h3, h4.mono x⟩
    simp only [Zone.put]
    split
    · rename_i q; rw [q, f3] at e; cases e
    · exact h1
/-- a fresh list joins the store -/
theorem G.alloc (g : G r0 Z Y σ s) {a : Addr} {vs : List Value} {n : Nat} {l : List D} (hf : s.heap.get? a = none) (k : ∀ b o, s.heap.get? b = some o → h'.get? b = some o) (ho : h'.get? a = some (lobj vs n)) (r : Rvs Z vs l) :
    σ a = none ∧ G r0 Z Y (σ.set a l) { s with heap := h', toks := tk } := by
  refine hide fun P_ hP_ => ?_
  obtain ⟨f1, f2, f3⟩ := g.fresh hf
  refine hP_ ?_
  clear hP_ P_
  refine ⟨f3, (g.grow k).same, g.base, (g.grow k (tk := tk)).keep, (g.grow k (tk := tk)).keepY, g.zy, fun b l' e => ?_⟩
  simp only [Sto.set] at e
  split at e
  · rename_i q; cases e; rw [q]; exact ⟨f1, f2, vs, n, ho, r⟩
  · exact (g.grow k (tk := tk)).lists b l' e
/-- a list of the store changes -/
theorem G.upd (g : G r0 Z Y σ s) {a : Addr} {vs : List Value} {n : Nat} {l l' : List D} (hl : σ a = some l) (k : ∀ b, b ≠ a → ∀ o, s.heap.get? b = some o → h'.get? b = some o) (ho : h'.get? a = some (lobj vs n)) (r : Rvs Z vs l') :
    G r0 Z Y (σ.set a l') { s with heap := h', toks := tk } := by
  refine hide fun P_ hP_ => ?_
  obtain ⟨f1, f2, -⟩ := g.lists a l hl
  refine hP_ ?_
  clear hP_ P_
  refine ⟨by rw [g.same], g.base, fun b o e => k b (fun q => ?_) o (g.keep b o e), fun b o e => k b (fun q => ?_) o (g.keepY b o e), g.zy, fun b l₂ e => ?_⟩
  · rw [q, f1] at e; cases e
  · rw [q, f2] at e; cases e
  · simp only [Sto.set] at e
    split at e
    · rename_i q; cases e; rw [q]; exact ⟨f1, f2, vs, n, ho, r⟩
    · rename_i q
      refine hide fun P_ hP_ => ?_
      obtain ⟨h1, h2, vs', n', h3, h4⟩ := g.lists b l₂ e
      refine hP_ ?_
      clear hP_ P_
      exact ⟨h1, h2, vs', n', k b q _ h3, h4⟩
/-- a list of the store is frozen -/
theorem G.freeze (g : G r0 Z Y σ s) {a : Addr} {l : List D} (hl : σ a = some l) : ∃ Z', A4 (Ext Z Z') (Rv Z' (.ref a) (.lst l)) (G r0 Z' Y (σ.del a) s) (∀ b, Z b = none → Z' b ≠ none → b = a) := by
  refine hide fun P_ hP_ => ?_
  obtain ⟨f1, f2, vs, n, ho, r⟩ := g.lists a l hl
  refine hP_ ?_
  clear hP_ P_
  have x : Ext Z (Z.put a (lobj vs n)) := Zone.ext_put f1
  refine ⟨Z.put a (lobj vs n), x, .lst (Zone.put_self ..) (r.mono x), ⟨g.same, fun b o' e => x _ _ (g.base b o' e), fun b o' e => ?_, g.keepY, fun b o' e => ?_, fun b l' e => ?_⟩, fun b h1 h2 => ?_⟩
  · simp only [Zone.put] at e
    split at e
    · rename_i q; cases e; rw [q]; exact ho
    · exact g.keep b o' e
  · simp only [Zone.put]
    split
    · rename_i q; rw [q, f2] at e; cases e
    · exact g.zy b o' e
  · simp only [Sto.del] at e
    split at e
    · cases e
    · rename_i q
      refine hide fun P_ hP_ => ?_
      obtain ⟨h1, h2, vs', n', h3, h4⟩ := g.lists b l' e
      refine hP_ ?_
      clear hP_ P_
      refine ⟨?_, h2, vs', n', h3, h4.mono x⟩
      simp [Zone.put, q, h1]
  · simp only [Zone.put] at h2
    split at h2
    · assumption
    · exact absurd h1 h2
/-- lists may be forgotten -/
theorem G.forget (g : G r0 Z Y σ s) {σ' : Sto} (h : ∀ a l, σ' a = some l → σ a = some l) : G r0 Z Y σ' s :=
  ⟨g.same, g.base, g.keep, g.keepY, g.zy, fun a l e => g.lists a l (h a l e)⟩
theorem G.isList (g : G r0 Z Y σ s) {a : Addr} {l : List D} (hl : σ a = some l) : E2 fun vs n => IsL s.heap a vs.toArray n ∧ Rvs Z vs l := by
  refine hide fun P_ hP_ => ?_
  obtain ⟨-, -, vs, n, ho, r⟩ := g.lists a l hl
  refine hP_ ?_
  clear hP_ P_
  exact ⟨vs, n, ho, r⟩
end

/-! ### the frame -/
structure Bs (K : Frag) (r0 : Shared) : Prop where
  K : K.In r0.heap
  g : ∃ mg, r0.heap.Ns mainGlobals mg
  b : ∃ mb, r0.heap.Ns builtinsNs mb ∧ ∀ x : Str, x ≠ "__name__" → mb x = bootBuiltins x
  lim : r0.heap.NoLimit

structure Cx where
  K : Frag
  prog : Program
  w : World
  A : Around
  env : Env
  own : List Addr
  r0 : Shared

structure St (c : Cx) (Z Y : Zone) (ρ : Vars) (σ : Sto) (s : Shared) : Prop where
  g : G c.r0 Z Y σ s
  ns : ∃ m, s.heap.Ns c.env.locals m ∧ ∀ x v, ρ x = some v → c.env.kindOf (Str.ofString x) = some .local → ∃ u, m (Str.ofString x) = some u ∧ RV Z u v
  cell : ∀ x v, ρ x = some v → c.env.kindOf (Str.ofString x) ≠ some .local → E2 fun a u => A3 (c.env.cells.lookup (Str.ofString x) = some a) (s.heap.IsCell a (some u)) (RV Z u v)
  cells : ∀ x a, c.env.cells.lookup x = some a → (∃ u, s.heap.IsCell a u) ∧ (a ∈ c.own ∨ ∃ o, Y a = some o)
  own : ∀ a ∈ c.own, Z a = none ∧ Y a = none ∧ σ a = none ∧ ∃ o, s.heap.get? a = some o

/-- what holds of a frame by its make -/
structure Cx.Ok (c : Cx) : Prop where
  bs : Bs c.K c.r0
  glob : c.env.globals = mainGlobals
  blt : c.env.builtins = builtinsNs
  hand : c.A.handled = none
  L : c.env.locals ∈ c.own
  fn : c.env.scope.kind = .function
  inj : ∀ x y a, c.env.cells.lookup x = some a → c.env.cells.lookup y = some a → x = y
  notL : ∀ x a, c.env.cells.lookup x = some a → a ≠ c.env.locals

section
variable {c : Cx} {Z Y : Zone} {ρ : Vars} {σ : Sto} {s : Shared} {h' : Heap} {tk : Nat}
/-- the frame's part over a heap that keeps everything but lists of the store -/
theorem St.move (S : St c Z Y ρ σ s) {Z' : Zone} {σ' : Sto} (x : Ext Z Z') (g : G c.r0 Z' Y σ' { s with heap := h', toks := tk })
    (k : ∀ b o, σ b = none → s.heap.get? b = some o → h'.get? b = some o) (ho : ∀ a ∈ c.own, Z' a = none ∧ σ' a = none)
    (hc : ∀ x a, c.env.cells.lookup x = some a → σ a = none) (hL : σ c.env.locals = none) : St c Z' Y ρ σ' { s with heap := h', toks := tk } := by
  refine ⟨g, ?_, fun y v e hy => ?_, fun y a e => ?_, fun a ha => ⟨(ho a ha).1, (S.own a ha).2.1, (ho a ha).2, ?_⟩⟩
  · refine hide fun P_ hP_ => ?_
    obtain ⟨m, ⟨o, es, ep, h1, h2⟩, hm⟩ := S.ns
    refine hP_ ?_
    clear hP_ P_
    refine ⟨m, ⟨o, es, ep, k _ _ hL h1, h2⟩, fun y v e hy => ?_⟩
    refine hide fun P_ hP_ => ?_
    obtain ⟨u, e1, e2⟩ := hm y v e hy
    refine hP_ ?_
    clear hP_ P_
    exact ⟨u, e1, e2.mono x⟩
  · refine hide fun P_ hP_ => ?_
    obtain ⟨a, u, e1, ⟨o, e2, e3⟩, e4⟩ := S.cell y v e hy
    refine hP_ ?_
    clear hP_ P_
    exact ⟨a, u, e1, ⟨o, k _ _ (hc _ _ e1) e2, e3⟩, e4.mono x⟩
  · refine hide fun P_ hP_ => ?_
    obtain ⟨⟨u, o, e2, e3⟩, e4⟩ := S.cells y a e
    refine hP_ ?_
    clear hP_ P_
    exact ⟨⟨u, o, k _ _ (hc _ _ e) e2, e3⟩, e4⟩
  · obtain ⟨o, e⟩ := (S.own a ha).2.2.2
    exact ⟨o, k _ _ (S.own a ha).2.2.1 e⟩
theorem St.notL (S : St c Z Y ρ σ s) (h : c.env.locals ∈ c.own) : σ c.env.locals = none := (S.own _ h).2.2.1
theorem St.notCell (S : St c Z Y ρ σ s) (x : Str) (a : Addr) (h : c.env.cells.lookup x = some a) : σ a = none := by
  refine hide fun P_ hP_ => ?_
  obtain ⟨⟨u, o, e2, e3⟩, -⟩ := S.cells x a h
  refine hP_ ?_
  clear hP_ P_
  cases q : σ a with
  | none => rfl
  | some l =>
    refine hide fun P_ hP_ => ?_
    obtain ⟨-, -, vs, n, e, -⟩ := S.g.lists a l q
    refine hP_ ?_
    clear hP_ P_
    rw [e] at e2; cases e2; cases e3
theorem St.grow (S : St c Z Y ρ σ s) (hk : c.Ok) (k : ∀ b o, s.heap.get? b = some o → h'.get? b = some o) : St c Z Y ρ σ { s with heap := h', toks := tk } :=
  S.move (Ext.refl Z) (S.g.grow k) (fun b o _ e => k b o e) (fun a ha => ⟨(S.own a ha).1, (S.own a ha).2.2.1⟩) S.notCell (S.notL hk.L)
theorem St.tok (S : St c Z Y ρ σ s) (hk : c.Ok) : St c Z Y ρ σ { s with toks := tk } := S.grow hk fun _ _ e => e
theorem St.put (S : St c Z Y ρ σ s) (hk : c.Ok) {a : Addr} {o : Obj} (hf : s.heap.get? a = none) (k : ∀ b o, s.heap.get? b = some o → h'.get? b = some o) (ho : h'.get? a = some o) :
    Ext Z (Z.put a o) ∧ St c (Z.put a o) Y ρ σ { s with heap := h', toks := tk } := by
  obtain ⟨x, g⟩ := S.g.put (tk := tk) hf k ho
  refine ⟨x, S.move x g (fun b o _ e => k b o e) (fun b hb => ⟨?_, (S.own b hb).2.2.1⟩) S.notCell (S.notL hk.L)⟩
  refine hide fun P_ hP_ => ?_
  obtain ⟨h1, -, -, o', h4⟩ := S.own b hb
  refine hP_ ?_
  clear hP_ P_
  simp only [Zone.put]
  split
  · rename_i q; rw [q, hf] at h4; cases h4
  · exact h1
theorem St.alloc (S : St c Z Y ρ σ s) (hk : c.Ok) {a : Addr} {vs : List Value} {n : Nat} {l : List D} (hf : s.heap.get? a = none) (k : ∀ b o, s.heap.get? b = some o → h'.get? b = some o) (ho : h'.get? a = some (lobj vs n)) (r : Rvs Z vs l) :
    σ a = none ∧ St c Z Y ρ (σ.set a l) { s with heap := h', toks := tk } := by
  obtain ⟨x, g⟩ := S.g.alloc (tk := tk) hf k ho r
  refine ⟨x, S.move (Ext.refl Z) g (fun b o _ e => k b o e) (fun b hb => ⟨(S.own b hb).1, ?_⟩) S.notCell (S.notL hk.L)⟩
  refine hide fun P_ hP_ => ?_
  obtain ⟨-, -, h3, o', h4⟩ := S.own b hb
  refine hP_ ?_
  clear hP_ P_
  rw [Sto.set_ne]
  · exact h3
  · rintro rfl; rw [hf] at h4; cases h4
theorem St.upd (S : St c Z Y ρ σ s) (hk : c.Ok) {a : Addr} {vs : List Value} {n : Nat} {l l' : List D} (hl : σ a = some l) (k : ∀ b, b ≠ a → ∀ o, s.heap.get? b = some o → h'.get? b = some o) (ho : h'.get? a = some (lobj vs n)) (r : Rvs Z vs l') :
    St c Z Y ρ (σ.set a l') { s with heap := h', toks := tk } := by
  refine S.move (Ext.refl Z) (S.g.upd hl k ho r) (fun b o hb e => k b (fun q => by rw [q, hl] at hb; cases hb) o e) (fun b hb => ⟨(S.own b hb).1, ?_⟩) S.notCell (S.notL hk.L)
  have h3 := (S.own b hb).2.2.1
  rw [Sto.set_ne]
  · exact h3
  · rintro rfl; rw [hl] at h3; cases h3
theorem St.freeze (S : St c Z Y ρ σ s) (hk : c.Ok) {a : Addr} {l : List D} (hl : σ a = some l) : ∃ Z', A3 (Ext Z Z') (Rv Z' (.ref a) (.lst l)) (St c Z' Y ρ (σ.del a) s) := by
  refine hide fun P_ hP_ => ?_
  obtain ⟨Z', x, r, g, only⟩ := S.g.freeze hl
  refine hP_ ?_
  clear hP_ P_
  refine ⟨Z', x, r, S.move (h' := s.heap) (tk := s.toks) x g (fun b o _ e => e) (fun b hb => ?_) S.notCell (S.notL hk.L)⟩
  refine hide fun P_ hP_ => ?_
  obtain ⟨h1, -, h3, -⟩ := S.own b hb
  refine hP_ ?_
  clear hP_ P_
  have hne : b ≠ a := by rintro rfl; rw [hl] at h3; cases h3
  refine ⟨?_, by simp [Sto.del, h3]⟩
  cases q : Z' b with
  | none => rfl
  | some o => exact absurd (only b h1 (by rw [q]; simp)) hne
theorem St.forget (S : St c Z Y ρ σ s) (hk : c.Ok) {σ' : Sto} (h : ∀ a l, σ' a = some l → σ a = some l) : St c Z Y ρ σ' s := by
  refine S.move (h' := s.heap) (tk := s.toks) (Ext.refl Z) (S.g.forget h) (fun b o _ e => e) (fun b hb => ⟨(S.own b hb).1, ?_⟩) S.notCell (S.notL hk.L)
  cases q : σ' b with
  | none => rfl
  | some l => have := h b l q; rw [(S.own b hb).2.2.1] at this; cases this
theorem St.get (S : St c Z Y ρ σ s) {x : String} {v : V} (h : ρ x = some v) (hl : c.env.kindOf (Str.ofString x) = some .local) : E2 fun m u => A3 (s.heap.Ns c.env.locals m) (m (Str.ofString x) = some u) (RV Z u v) := by
  refine hide fun P_ hP_ => ?_
  obtain ⟨m, h1, h2⟩ := S.ns
  refine hP_ ?_
  clear hP_ P_
  refine hide fun P_ hP_ => ?_
  obtain ⟨u, h3, h4⟩ := h2 x v h hl
  refine hP_ ?_
  clear hP_ P_
  exact ⟨m, u, h1, h3, h4⟩
theorem G.sameBut {r0 : Shared} (g : G r0 Z Y σ s) {a : Addr} (hz : Z a = none) (hy : Y a = none) (hs : σ a = none) (sb : Heap.SameBut a s.heap h') : G r0 Z Y σ { s with heap := h', toks := tk } := by
  refine ⟨by rw [g.same], g.base, fun b o e => ?_, fun b o e => ?_, g.zy, fun b l e => ?_⟩
  · exact (sb.2 b (fun q => by rw [q, hz] at e; cases e)).trans (g.keep b o e)
  · exact (sb.2 b (fun q => by rw [q, hy] at e; cases e)).trans (g.keepY b o e)
  · refine hide fun P_ hP_ => ?_
    obtain ⟨h1, h2, vs, n, h3, h4⟩ := g.lists b l e
    refine hP_ ?_
    clear hP_ P_
    exact ⟨h1, h2, vs, n, (sb.2 b (fun q => by rw [q, hs] at e; cases e)).trans h3, h4⟩
theorem heap_ex_sameBut {h h' : Heap} {a b : Addr} (sb : Heap.SameBut a h h') (hb : b ≠ a) (e : ∃ o, h.get? b = some o) : ∃ o, h'.get? b = some o := by
  obtain ⟨o, e⟩ := e; exact ⟨o, (sb.2 b hb).trans e⟩
/-- a local name is stored -/
theorem St.storeLocal (S : St c Z Y ρ σ s) (hk : c.Ok) {x : String} {u : Value} {v : V} (hl : c.env.kindOf (Str.ofString x) = some .local) (r : RV Z u v) {m : Str → Option Value}
    (hm : s.heap.Ns c.env.locals m) (hm2 : ∀ x v, ρ x = some v → c.env.kindOf (Str.ofString x) = some .local → ∃ u, m (Str.ofString x) = some u ∧ RV Z u v)
    (hn : h'.Ns c.env.locals (fun y => if y = Str.ofString x then some u else m y)) (sb : Heap.SameBut c.env.locals s.heap h') : St c Z Y (ρ.set x v) σ { s with heap := h', toks := tk } := by
  refine hide fun P_ hP_ => ?_
  obtain ⟨o1, o2, o3, -⟩ := S.own _ hk.L
  refine hP_ ?_
  clear hP_ P_
  refine ⟨S.g.sameBut o1 o2 o3 sb, ⟨_, hn, fun y w e hy => ?_⟩, fun y w e hy => ?_, fun y a e => ?_, fun a ha => ?_⟩
  · by_cases q : y = x
    · subst q
      simp only [Vars.set_self, Option.some.injEq] at e
      subst e
      exact ⟨u, by simp, r⟩
    · rw [Vars.set_ne ρ v q] at e
      refine hide fun P_ hP_ => ?_
      obtain ⟨u', e1, e2⟩ := hm2 y w e hy
      refine hP_ ?_
      clear hP_ P_
      exact ⟨u', by rw [if_neg (fun z => q (ofString_inj z))]; exact e1, e2⟩
  · by_cases q : y = x
    · subst q; exact absurd hl hy
    · rw [Vars.set_ne ρ v q] at e
      refine hide fun P_ hP_ => ?_
      obtain ⟨a, u', e1, e2, e3⟩ := S.cell y w e hy
      refine hP_ ?_
      clear hP_ P_
      exact ⟨a, u', e1, e2.sameBut sb (hk.notL _ _ e1), e3⟩
  · refine hide fun P_ hP_ => ?_
    obtain ⟨⟨u', e2⟩, e3⟩ := S.cells y a e
    refine hP_ ?_
    clear hP_ P_
    exact ⟨⟨u', e2.sameBut sb (hk.notL _ _ e)⟩, e3⟩
  · refine hide fun P_ hP_ => ?_
    obtain ⟨h1, h2, h3, h4⟩ := S.own a ha
    refine hP_ ?_
    clear hP_ P_
    refine ⟨h1, h2, h3, ?_⟩
    by_cases q : a = c.env.locals
    · obtain ⟨o, _, _, e, _⟩ := hn; rw [q]; exact ⟨o, e⟩
    · exact heap_ex_sameBut sb q h4
/-- a cell name is stored -/
theorem St.storeCell (S : St c Z Y ρ σ s) (hk : c.Ok) {x : String} {u : Value} {v : V} {a : Addr} (hl : c.env.kindOf (Str.ofString x) = some .cell) (ha : c.env.cells.lookup (Str.ofString x) = some a) (hown : a ∈ c.own) (r : RV Z u v)
    (hn : h'.IsCell a (some u)) (sb : Heap.SameBut a s.heap h') : St c Z Y (ρ.set x v) σ { s with heap := h', toks := tk } := by
  refine hide fun P_ hP_ => ?_
  obtain ⟨o1, o2, o3, -⟩ := S.own _ hown
  refine hP_ ?_
  clear hP_ P_
  have hnl : a ≠ c.env.locals := hk.notL _ _ ha
  refine ⟨S.g.sameBut o1 o2 o3 sb, ?_, fun y w e hy => ?_, fun y b e => ?_, fun b hb => ?_⟩
  · refine hide fun P_ hP_ => ?_
    obtain ⟨m, h1, h2⟩ := S.ns
    refine hP_ ?_
    clear hP_ P_
    refine ⟨m, h1.sameBut sb (Ne.symm hnl), fun y w e hy => ?_⟩
    have q : y ≠ x := by rintro rfl; rw [hl] at hy; cases hy
    rw [Vars.set_ne ρ v q] at e
    exact h2 y w e hy
  · by_cases q : y = x
    · subst q
      simp only [Vars.set_self, Option.some.injEq] at e
      subst e
      exact ⟨a, u, ha, hn, r⟩
    · rw [Vars.set_ne ρ v q] at e
      refine hide fun P_ hP_ => ?_
      obtain ⟨b, u', e1, e2, e3⟩ := S.cell y w e hy
      refine hP_ ?_
      clear hP_ P_
      refine ⟨b, u', e1, e2.sameBut sb (fun z => q ?_), e3⟩
      rw [z] at e1
      exact ofString_inj (hk.inj _ _ _ e1 ha)
  · by_cases z : b = a
    · rw [z]; exact ⟨⟨_, hn⟩, .inl hown⟩
    · refine hide fun P_ hP_ => ?_
      obtain ⟨⟨u', e2⟩, e3⟩ := S.cells y b e
      refine hP_ ?_
      clear hP_ P_
      exact ⟨⟨u', e2.sameBut sb z⟩, e3⟩
  · refine hide fun P_ hP_ => ?_
    obtain ⟨h1, h2, h3, h4⟩ := S.own b hb
    refine hP_ ?_
    clear hP_ P_
    refine ⟨h1, h2, h3, ?_⟩
    by_cases q : b = a
    · obtain ⟨o, e, _⟩ := hn; rw [q]; exact ⟨o, e⟩
    · exact heap_ex_sameBut sb q h4
end
end Mine
namespace Mine
open PySem.SeqAt Classical

theorem RV.int {Z : Zone} {i : Int} {t : Tok} : RV Z (.int i t) (.d (.int i)) := Rv.int i t
theorem RV.none {Z : Zone} : RV Z .none (.d .none) := Rv.none
theorem RV.bool {Z : Zone} {b : Bool} : RV Z (.bool b) (.d (.bool b)) := Rv.bool b
theorem RV.raw {Z : Zone} {v : Value} : RV Z v (.raw v) := rfl

/-- a tree of a value, in a frame, said by what it gives and leaves -/
def Tr (c : Cx) (ρ : Vars) (σ : Sto) (t : Sem Value) (K : V → Sto → Prop) : Prop :=
  ∀ (Z Y : Zone) (s : Shared) (Q : Value → Shared → Prop) (X : Value → Shared → Prop), St c Z Y ρ σ s →
    (∀ Z' u v σ' s', Ext Z Z' → RV Z' u v → K v σ' → St c Z' Y ρ σ' s' → Q u s') → wpAny (model c.prog c.w) c.A t Q X s
def Ev (c : Cx) (ρ : Vars) (σ : Sto) (e : Expr) (K : V → Sto → Prop) : Prop := Tr c ρ σ (eval e c.env) K
def Evs (c : Cx) (ρ : Vars) (σ : Sto) (pos : Pos) (es : List Expr) (K : List V → Sto → Prop) : Prop :=
  ∀ (Z Y : Zone) (s : Shared) (Q : List Value → Shared → Prop) (X : Value → Shared → Prop), St c Z Y ρ σ s →
    (∀ Z' us vs σ' s', Ext Z Z' → RVs Z' us vs → K vs σ' → St c Z' Y ρ σ' s' → Q us s') → wpAny (model c.prog c.w) c.A (spliced (backTo pos (starEach es c.env))) Q X s
def Ts (c : Cx) (ρ : Vars) (σ : Sto) (t : Sem Bool) (K : Bool → Sto → Prop) : Prop :=
  ∀ (Z Y : Zone) (s : Shared) (Q : Bool → Shared → Prop) (X : Value → Shared → Prop), St c Z Y ρ σ s →
    (∀ Z' b σ' s', Ext Z Z' → K b σ' → St c Z' Y ρ σ' s' → Q b s') → wpAny (model c.prog c.w) c.A t Q X s
def Tst (c : Cx) (ρ : Vars) (σ : Sto) (e : Expr) (K : Bool → Sto → Prop) : Prop := Ts c ρ σ (isTrue e c.env (eval e c.env)) K
/-- an operation on one, two values -/
def Op1 (c : Cx) (ρ : Vars) (σ : Sto) (f : Value → Sem Value) (a : V) (K : V → Sto → Prop) : Prop :=
  ∀ (Z Y : Zone) (s : Shared) (Q : Value → Shared → Prop) (X : Value → Shared → Prop) (u : Value), St c Z Y ρ σ s → RV Z u a →
    (∀ Z' u v σ' s', Ext Z Z' → RV Z' u v → K v σ' → St c Z' Y ρ σ' s' → Q u s') → wpAny (model c.prog c.w) c.A (f u) Q X s
def Op2 (c : Cx) (ρ : Vars) (σ : Sto) (f : Value → Value → Sem Value) (a b : V) (K : V → Sto → Prop) : Prop :=
  ∀ (Z Y : Zone) (s : Shared) (Q : Value → Shared → Prop) (X : Value → Shared → Prop) (u u' : Value), St c Z Y ρ σ s → RV Z u a → RV Z u' b →
    (∀ Z' u v σ' s', Ext Z Z' → RV Z' u v → K v σ' → St c Z' Y ρ σ' s' → Q u s') → wpAny (model c.prog c.w) c.A (f u u') Q X s
/-- a call by values -/
def Cl (c : Cx) (ρ : Vars) (σ : Sto) (f : Value) (as : List V) (K : V → Sto → Prop) : Prop :=
  ∀ (Z Y : Zone) (s : Shared) (Q : Value → Shared → Prop) (X : Value → Shared → Prop) (us : List Value), St c Z Y ρ σ s → RVs Z us as →
    (∀ Z' u v σ' s', Ext Z Z' → RV Z' u v → K v σ' → St c Z' Y ρ σ' s' → Q u s') → wpAny (model c.prog c.w) c.A (call f us) Q X s

section
variable {c : Cx} {ρ : Vars} {σ : Sto} {K : V → Sto → Prop} {pos p1 p2 : Pos}

theorem ev_int (hk : c.Ok) {i : Int} {k : Nat} (h : K (.d (.int i)) σ) : Ev c ρ σ (.Constant (.int i) k pos) K := fun Z Y s Q X S q =>
  wpAny_Constant_int (q Z _ _ _ _ (Ext.refl Z) RV.int h (S.tok hk))
theorem ev_none (_hk : c.Ok) {k : Nat} (h : K (.d .none) σ) : Ev c ρ σ (.Constant .none k pos) K := fun Z Y s Q X S q =>
  wpAny_Constant_none (q Z _ _ _ _ (Ext.refl Z) RV.none h S)
theorem ev_local (hk : c.Ok) {x : String} {v : V} (hx : ρ x = some v) (h : K v σ) (hl : c.env.kindOf (Str.ofString x) = some .local) (hd : (Str.ofString x == ("__debug__" : Str)) = false) :
    Ev c ρ σ (.Name (Str.ofString x) pos) K := fun Z Y s Q X S q => by
  refine hide fun P_ hP_ => ?_
  obtain ⟨m, u, h1, h2, h3⟩ := S.get hx hl
  refine hP_ ?_
  clear hP_ P_
  exact wpAny_Name (wpAny_loadName_local hk.fn hl h1 h2 (q Z u v σ s (Ext.refl Z) h3 h S)) hd
theorem ev_cell (hk : c.Ok) {x : String} {v : V} (hx : ρ x = some v) (h : K v σ) (hl : c.env.kindOf (Str.ofString x) = some .cell) (hd : (Str.ofString x == ("__debug__" : Str)) = false) :
    Ev c ρ σ (.Name (Str.ofString x) pos) K := fun Z Y s Q X S q => by
  refine hide fun P_ hP_ => ?_
  obtain ⟨a, u, h1, h2, h3⟩ := S.cell x v hx (by rw [hl]; simp)
  refine hP_ ?_
  clear hP_ P_
  exact wpAny_Name (wpAny_loadName_cell hk.fn hl h1 h2 (q Z u v σ s (Ext.refl Z) h3 h S)) hd
theorem G.ns (g : G r0 Z Y σ s) {a : Addr} {m : Str → Option Value} (h : r0.heap.Ns a m) : s.heap.Ns a m := h.keeps fun b o e => g.keep b o (g.base b o e)
theorem ev_global (hk : c.Ok) {x : Str} {v : Value} (e : nsIn c.K mainGlobals x = some (some v)) (h : K (.raw v) σ) (hl : c.env.kindOf x = some .globalImplicit) (hd : (x == ("__debug__" : Str)) = false) :
    Ev c ρ σ (.Name x pos) K := fun Z Y s Q X S q => by
  obtain ⟨mg, hg⟩ := hk.bs.g
  refine Calls.Name_function_global hk.fn hl (Calls.loadGlobal_global (mg := mg) (by rw [hk.glob]; exact S.g.ns hg) (mg_of hk.bs.K hg e) (q Z v (.raw v) σ s (Ext.refl Z) rfl h S)) hd
theorem ev_builtin (hk : c.Ok) {x : Str} {v : Value} (e : nsIn c.K mainGlobals x = some none) (hv : bootBuiltins x = some v) (h : K (.raw v) σ) (hl : c.env.kindOf x = some .globalImplicit) (hn : x ≠ "__name__") (hd : (x == ("__debug__" : Str)) = false) :
    Ev c ρ σ (.Name x pos) K := fun Z Y s Q X S q => by
  obtain ⟨mg, hg⟩ := hk.bs.g
  refine hide fun P_ hP_ => ?_
  obtain ⟨mb, hb, hb2⟩ := hk.bs.b
  refine hP_ ?_
  clear hP_ P_
  refine Calls.Name_function_global hk.fn hl (Calls.loadGlobal_builtin (mg := mg) (mb := mb) (by rw [hk.glob]; exact S.g.ns hg) (mg_none_of hk.bs.K hg e) (by rw [hk.blt]; exact S.g.ns hb) ((hb2 x hn).trans hv) (q Z v (.raw v) σ s (Ext.refl Z) rfl h S)) hd

theorem Tr.mono {t : Sem Value} {K' : V → Sto → Prop} (h : Tr c ρ σ t K) (hK : ∀ v σ', K v σ' → K' v σ') : Tr c ρ σ t K' := fun Z Y s Q X S q =>
  h Z Y s Q X S fun Z' u v σ' s' e r k S' => q Z' u v σ' s' e r (hK v σ' k) S'
theorem Ev.mono {e : Expr} {K' : V → Sto → Prop} (h : Ev c ρ σ e K) (hK : ∀ v σ', K v σ' → K' v σ') : Ev c ρ σ e K' := Tr.mono h hK

theorem ev_bin {l r : Expr} {op : Operator} (h : Ev c ρ σ l fun a σ1 => Ev c ρ σ1 r fun b σ2 => Op2 c ρ σ2 (binaryOp op) a b K) : Ev c ρ σ (.BinOp l op r pos) K := fun Z Y s Q X S q =>
  wpAny_BinOp (h Z Y s _ X S fun Z1 ua a σ1 s1 x1 ra h1 S1 => h1 Z1 Y s1 _ X S1 fun Z2 ub b σ2 s2 x2 rb h2 S2 => h2 Z2 Y s2 Q X ua ub S2 (ra.mono x2) rb
    fun Z3 u v σ3 s3 x3 rv k S3 => q Z3 u v σ3 s3 ((x1.trans x2).trans x3) rv k S3)
theorem ev_cmp {l r : Expr} {op : CmpOp} (h : Ev c ρ σ l fun a σ1 => Ev c ρ σ1 r fun b σ2 => Op2 c ρ σ2 (compareOp op) a b K) (hm : behindInMarks op r = false) : Ev c ρ σ (.Compare l [op] [r] pos) K := fun Z Y s Q X S q =>
  wpAny_Compare1 (h Z Y s _ X S fun Z1 ua a σ1 s1 x1 ra h1 S1 => h1 Z1 Y s1 _ X S1 fun Z2 ub b σ2 s2 x2 rb h2 S2 => h2 Z2 Y s2 Q X ua ub S2 (ra.mono x2) rb
    fun Z3 u v σ3 s3 x3 rv k S3 => q Z3 u v σ3 s3 ((x1.trans x2).trans x3) rv k S3) hm
theorem ts_cmp {l r : Expr} {op : CmpOp} {K : Bool → Sto → Prop} (h : Ev c ρ σ l fun a σ1 => Ev c ρ σ1 r fun b σ2 => Op2 c ρ σ2 (compareOp op) a b fun v σ3 => ∃ t, v = .d (.bool t) ∧ K t σ3) (hm : behindInMarks op r = false) :
    Tst c ρ σ (.Compare l [op] [r] pos) K := fun Z Y s Q X S q =>
  wpAny_isTrue_Compare1 (h Z Y s _ X S fun Z1 ua a σ1 s1 x1 ra h1 S1 => h1 Z1 Y s1 _ X S1 fun Z2 ub b σ2 s2 x2 rb h2 S2 => h2 Z2 Y s2 _ X ua ub S2 (ra.mono x2) rb
    fun Z3 u v σ3 s3 x3 rv k S3 => by
      refine hide fun P_ hP_ => ?_
      obtain ⟨t, rfl, k⟩ := k
      refine hP_ ?_
      clear hP_ P_
      cases rv
      exact wpAny_truthy_bool (q Z3 t σ3 s3 ((x1.trans x2).trans x3) k S3)) hm
theorem ts_not {e : Expr} {K : Bool → Sto → Prop} (h : Tst c ρ σ e fun b σ1 => K (!b) σ1) : Tst c ρ σ (.UnaryOp .Not e pos) K := fun Z Y s Q X S q =>
  wpAny_isTrue_Not (h Z Y s _ X S fun Z1 b σ1 s1 x1 k S1 => q Z1 _ σ1 s1 x1 k S1)
def All (c : Cx) (ρ : Vars) (σ : Sto) (op : BoolOp) (es : List Expr) (K : Bool → Sto → Prop) : Prop := Ts c ρ σ (allTrue op es c.env) K
theorem ts_boolop {op : BoolOp} {es : List Expr} {K : Bool → Sto → Prop} (h : All c ρ σ op es K) : Tst c ρ σ (.BoolOp op es pos) K := fun Z Y s Q X S q =>
  wpAny_isTrue_BoolOp (h Z Y s Q X S q)
theorem all_and_nil {K : Bool → Sto → Prop} (h : K true σ) : All c ρ σ .And [] K := fun Z Y s Q X S q => wpAny_allTrue_And_nil (q Z true σ s (Ext.refl Z) h S)
theorem all_or_nil {K : Bool → Sto → Prop} (h : K false σ) : All c ρ σ .Or [] K := fun Z Y s Q X S q => wpAny_allTrue_Or_nil (q Z false σ s (Ext.refl Z) h S)
theorem all_and {e : Expr} {es : List Expr} {K : Bool → Sto → Prop} (h : Tst c ρ σ e fun b σ1 => if b = true then All c ρ σ1 .And es K else K false σ1) : All c ρ σ .And (e :: es) K := fun Z Y s Q X S q =>
  wpAny_allTrue_And_cons (h Z Y s _ X S fun Z1 b σ1 s1 x1 k S1 => by
    cases b with
    | true =>
      simp only [if_true] at k ⊢
      exact k Z1 Y s1 Q X S1 fun Z2 b2 σ2 s2 x2 k2 S2 => q Z2 b2 σ2 s2 (x1.trans x2) k2 S2
    | false =>
      simp only [Bool.false_eq_true, if_false] at k ⊢
      exact q Z1 false σ1 s1 x1 k S1)
theorem all_or {e : Expr} {es : List Expr} {K : Bool → Sto → Prop} (h : Tst c ρ σ e fun b σ1 => if b = true then K true σ1 else All c ρ σ1 .Or es K) : All c ρ σ .Or (e :: es) K := fun Z Y s Q X S q =>
  wpAny_allTrue_Or_cons (h Z Y s _ X S fun Z1 b σ1 s1 x1 k S1 => by
    cases b with
    | true =>
      simp only [if_true] at k ⊢
      exact q Z1 true σ1 s1 x1 k S1
    | false =>
      simp only [Bool.false_eq_true, if_false] at k ⊢
      exact k Z1 Y s1 Q X S1 fun Z2 b2 σ2 s2 x2 k2 S2 => q Z2 b2 σ2 s2 (x1.trans x2) k2 S2)
theorem ev_ifexp {t a b : Expr} (h : Tst c ρ σ t fun r σ1 => if r = true then Ev c ρ σ1 a K else Ev c ρ σ1 b K) : Ev c ρ σ (.IfExp t a b pos) K := fun Z Y s Q X S q =>
  wpAny_IfExp (h Z Y s _ X S fun Z1 r σ1 s1 x1 k S1 => by
    cases r with
    | true =>
      simp only [if_true] at k ⊢
      exact k Z1 Y s1 Q X S1 fun Z2 b2 v2 σ2 s2 x2 r2 k2 S2 => q Z2 b2 v2 σ2 s2 (x1.trans x2) r2 k2 S2
    | false =>
      simp only [Bool.false_eq_true, if_false] at k ⊢
      exact k Z1 Y s1 Q X S1 fun Z2 b2 v2 σ2 s2 x2 r2 k2 S2 => q Z2 b2 v2 σ2 s2 (x1.trans x2) r2 k2 S2)

/-! ### ints -/
theorem op_add (hk : c.Ok) {i j : Int} (h : K (.d (.int (i + j))) σ) : Op2 c ρ σ (binaryOp .Add) (.d (.int i)) (.d (.int j)) K := fun Z Y s Q X u u' S r1 r2 q => by
  (first | cases r1 using Rv.intE | cases r1 using Rv.boolE | cases r1 using Rv.noneE | cases r1 using Rv.lstE | cases r1 using Rv.tupE | cases r1 using RVs.nilE | cases r1 using Rvs.nilE | cases r1); (first | cases r2 using Rv.intE | cases r2 using Rv.boolE | cases r2 using Rv.noneE | cases r2 using Rv.lstE | cases r2 using Rv.tupE | cases r2 using RVs.nilE | cases r2 using Rvs.nilE | cases r2)
  exact wpAny_add_int (q Z _ _ _ _ (Ext.refl Z) RV.int h (S.tok hk))
theorem op_sub (hk : c.Ok) {i j : Int} (h : K (.d (.int (i - j))) σ) : Op2 c ρ σ (binaryOp .Sub) (.d (.int i)) (.d (.int j)) K := fun Z Y s Q X u u' S r1 r2 q => by
  (first | cases r1 using Rv.intE | cases r1 using Rv.boolE | cases r1 using Rv.noneE | cases r1 using Rv.lstE | cases r1 using Rv.tupE | cases r1 using RVs.nilE | cases r1 using Rvs.nilE | cases r1); (first | cases r2 using Rv.intE | cases r2 using Rv.boolE | cases r2 using Rv.noneE | cases r2 using Rv.lstE | cases r2 using Rv.tupE | cases r2 using RVs.nilE | cases r2 using Rvs.nilE | cases r2)
  exact PyProof.Rows.sub_int (q Z _ _ _ _ (Ext.refl Z) RV.int h (S.tok hk))
theorem op_mul (hk : c.Ok) {i j : Int} (h : K (.d (.int (i * j))) σ) (hm : IntMulOk i j) : Op2 c ρ σ (binaryOp .Mult) (.d (.int i)) (.d (.int j)) K := fun Z Y s Q X u u' S r1 r2 q => by
  (first | cases r1 using Rv.intE | cases r1 using Rv.boolE | cases r1 using Rv.noneE | cases r1 using Rv.lstE | cases r1 using Rv.tupE | cases r1 using RVs.nilE | cases r1 using Rvs.nilE | cases r1); (first | cases r2 using Rv.intE | cases r2 using Rv.boolE | cases r2 using Rv.noneE | cases r2 using Rv.lstE | cases r2 using Rv.tupE | cases r2 using RVs.nilE | cases r2 using Rvs.nilE | cases r2)
  exact PyProof.Rows.mul_int (q Z _ _ _ _ (Ext.refl Z) RV.int h (S.tok hk)) hm
theorem op_mod (hk : c.Ok) {i j : Int} (hj : j ≠ 0) (h : K (.d (.int (i.fmod j))) σ) : Op2 c ρ σ (binaryOp .Mod) (.d (.int i)) (.d (.int j)) K := fun Z Y s Q X u u' S r1 r2 q => by
  (first | cases r1 using Rv.intE | cases r1 using Rv.boolE | cases r1 using Rv.noneE | cases r1 using Rv.lstE | cases r1 using Rv.tupE | cases r1 using RVs.nilE | cases r1 using Rvs.nilE | cases r1); (first | cases r2 using Rv.intE | cases r2 using Rv.boolE | cases r2 using Rv.noneE | cases r2 using Rv.lstE | cases r2 using Rv.tupE | cases r2 using RVs.nilE | cases r2 using Rvs.nilE | cases r2)
  exact PyProof.Rows.mod_int hj (q Z _ _ _ _ (Ext.refl Z) RV.int h (S.tok hk))
theorem op_div (hk : c.Ok) {i j : Int} (hj : j ≠ 0) (hj2 : j.natAbs < 1073741824) (h : K (.d (.int (i.fdiv j))) σ) : Op2 c ρ σ (binaryOp .FloorDiv) (.d (.int i)) (.d (.int j)) K := fun Z Y s Q X u u' S r1 r2 q => by
  (first | cases r1 using Rv.intE | cases r1 using Rv.boolE | cases r1 using Rv.noneE | cases r1 using Rv.lstE | cases r1 using Rv.tupE | cases r1 using RVs.nilE | cases r1 using Rvs.nilE | cases r1); (first | cases r2 using Rv.intE | cases r2 using Rv.boolE | cases r2 using Rv.noneE | cases r2 using Rv.lstE | cases r2 using Rv.tupE | cases r2 using RVs.nilE | cases r2 using Rvs.nilE | cases r2)
  exact PyProof.Rows.floordiv_int hj (q Z _ _ _ _ (Ext.refl Z) RV.int h (S.tok hk)) (.inl (PyProof.noPylong_small hj2))
theorem op_shr (hk : c.Ok) {i j : Int} (hj : 0 ≤ j) (h : K (.d (.int (i.fdiv (2 ^ j.toNat)))) σ) : Op2 c ρ σ (binaryOp .RShift) (.d (.int i)) (.d (.int j)) K := fun Z Y s Q X u u' S r1 r2 q => by
  (first | cases r1 using Rv.intE | cases r1 using Rv.boolE | cases r1 using Rv.noneE | cases r1 using Rv.lstE | cases r1 using Rv.tupE | cases r1 using RVs.nilE | cases r1 using Rvs.nilE | cases r1); (first | cases r2 using Rv.intE | cases r2 using Rv.boolE | cases r2 using Rv.noneE | cases r2 using Rv.lstE | cases r2 using Rv.tupE | cases r2 using RVs.nilE | cases r2 using Rvs.nilE | cases r2)
  exact PyProof.Rows.rshift_int hj (q Z _ _ _ _ (Ext.refl Z) RV.int h (S.tok hk))
theorem op_lt_int (hk : c.Ok) {i j : Int} (h : K (.d (.bool (decide (i < j)))) σ) : Op2 c ρ σ (compareOp .Lt) (.d (.int i)) (.d (.int j)) K := fun Z Y s Q X u u' S r1 r2 q => by
  (first | cases r1 using Rv.intE | cases r1 using Rv.boolE | cases r1 using Rv.noneE | cases r1 using Rv.lstE | cases r1 using Rv.tupE | cases r1 using RVs.nilE | cases r1 using Rvs.nilE | cases r1); (first | cases r2 using Rv.intE | cases r2 using Rv.boolE | cases r2 using Rv.noneE | cases r2 using Rv.lstE | cases r2 using Rv.tupE | cases r2 using RVs.nilE | cases r2 using Rvs.nilE | cases r2)
  exact wpAny_lt_int (q Z _ _ _ _ (Ext.refl Z) RV.bool h S)
end
end Mine
namespace Mine
open PySem.SeqAt Classical

/-- a value seen as data: a list of the store is seen by what it holds -/
inductive Vw (σ : Sto) : V → D → Prop
  | d (x) : Vw σ (.d x) x
  | p {a l} : σ a = some l → Vw σ (.raw (.ref a)) (.lst l)

section
variable {c : Cx} {Z Y : Zone} {ρ : Vars} {σ : Sto} {s : Shared} {K : V → Sto → Prop} {pos p1 p2 : Pos}

theorem St.view (S : St c Z Y ρ σ s) : ∃ Zv, A3 (Ext Z Zv) (∀ a o, Zv a = some o → s.heap.get? a = some o) (∀ u v d, RV Z u v → Vw σ v d → Rv Zv u d) := by
  have x : Ext Z (fun a => if (σ a).isSome then s.heap.get? a else Z a) := fun a o e => by
    show (if (σ a).isSome then s.heap.get? a else Z a) = some o
    split
    · exact S.g.keep a o e
    · exact e
  refine ⟨_, x, fun a o e => ?_, fun u v d r h => ?_⟩
  · replace e : (if (σ a).isSome then s.heap.get? a else Z a) = some o := e
    split at e
    · exact e
    · exact S.g.keep a o e
  · cases h with
    | d x' => exact Rv.mono x r
    | p e =>
      (first | cases r using Rv.intE | cases r using Rv.boolE | cases r using Rv.noneE | cases r using Rv.lstE | cases r using Rv.tupE | cases r using RVs.nilE | cases r using Rvs.nilE | cases r)
      refine hide fun P_ hP_ => ?_
      obtain ⟨-, -, vs, n, h1, h2⟩ := S.g.lists _ _ e
      refine hP_ ?_
      clear hP_ P_
      exact .lst (n := n) (by simp [e, h1]) (h2.mono x)

theorem op_cmp_lt {a b : V} {d e : D} {t : Ty} (ha : Vw σ a d) (hb : Vw σ b e) (hd : Has t d) (he : Has t e) (hu : c.A.units + t.depth < cLine) (h : K (.d (.bool (D.lt d e))) σ) :
    Op2 c ρ σ (compareOp .Lt) a b K := fun Z Y s Q X u u' S r1 r2 q => by
  refine hide fun P_ hP_ => ?_
  obtain ⟨Zv, x, k, vw⟩ := S.view
  refine hP_ ?_
  clear hP_ P_
  exact (rv_eq_lt _ t (Nat.le_refl _) c.A Zv s k hu (vw _ _ _ r1 ha) (vw _ _ _ r2 hb) hd he).2.1 _ _ _ _ (q Z _ _ _ _ (Ext.refl Z) RV.bool h S)
theorem op_cmp_eq {a b : V} {d e : D} {t : Ty} (ha : Vw σ a d) (hb : Vw σ b e) (hd : Has t d) (he : Has t e) (hu : c.A.units + t.depth < cLine) (h : K (.d (.bool (decide (d = e)))) σ) :
    Op2 c ρ σ (compareOp .Eq) a b K := fun Z Y s Q X u u' S r1 r2 q => by
  refine hide fun P_ hP_ => ?_
  obtain ⟨Zv, x, k, vw⟩ := S.view
  refine hP_ ?_
  clear hP_ P_
  exact (rv_eq_lt _ t (Nat.le_refl _) c.A Zv s k hu (vw _ _ _ r1 ha) (vw _ _ _ r2 hb) hd he).2.2.1 _ _ _ _ (q Z _ _ _ _ (Ext.refl Z) RV.bool h S)
theorem op_cmp_ne {a b : V} {d e : D} {t : Ty} (ha : Vw σ a d) (hb : Vw σ b e) (hd : Has t d) (he : Has t e) (hu : c.A.units + t.depth < cLine) (h : K (.d (.bool (!decide (d = e)))) σ) :
    Op2 c ρ σ (compareOp .NotEq) a b K := fun Z Y s Q X u u' S r1 r2 q => by
  refine hide fun P_ hP_ => ?_
  obtain ⟨Zv, x, k, vw⟩ := S.view
  refine hP_ ?_
  clear hP_ P_
  exact (rv_eq_lt _ t (Nat.le_refl _) c.A Zv s k hu (vw _ _ _ r1 ha) (vw _ _ _ r2 hb) hd he).2.2.2 _ _ _ _ (q Z _ _ _ _ (Ext.refl Z) RV.bool h S)
theorem op_ne_bool {a b : Bool} (h : K (.d (.bool (!(a == b)))) σ) : Op2 c ρ σ (compareOp .NotEq) (.d (.bool a)) (.d (.bool b)) K := fun Z Y s Q X u u' S r1 r2 q => by
  (first | cases r1 using Rv.intE | cases r1 using Rv.boolE | cases r1 using Rv.noneE | cases r1 using Rv.lstE | cases r1 using Rv.tupE | cases r1 using RVs.nilE | cases r1 using Rvs.nilE | cases r1); (first | cases r2 using Rv.intE | cases r2 using Rv.boolE | cases r2 using Rv.noneE | cases r2 using Rv.lstE | cases r2 using Rv.tupE | cases r2 using RVs.nilE | cases r2 using Rvs.nilE | cases r2)
  exact RcNeAt.bool_bool a b _ _ _ _ (q Z _ _ _ _ (Ext.refl Z) RV.bool h S)
/-- two ints by > >= <= -/
theorem op_gt (hk : c.Ok) {i j : Int} (h : K (.d (.bool (decide (i > j)))) σ) : Op2 c ρ σ (compareOp .Gt) (.d (.int i)) (.d (.int j)) K := fun Z Y s Q X u u' S r1 r2 q => by
  (first | cases r1 using Rv.intE | cases r1 using Rv.boolE | cases r1 using Rv.noneE | cases r1 using Rv.lstE | cases r1 using Rv.tupE | cases r1 using RVs.nilE | cases r1 using Rvs.nilE | cases r1); (first | cases r2 using Rv.intE | cases r2 using Rv.boolE | cases r2 using Rv.noneE | cases r2 using Rv.lstE | cases r2 using Rv.tupE | cases r2 using RVs.nilE | cases r2 using Rvs.nilE | cases r2)
  exact PyProof.Rows.gt_int (q Z _ _ _ _ (Ext.refl Z) RV.bool h S)
theorem op_ge (hk : c.Ok) {i j : Int} (h : K (.d (.bool (decide (i ≥ j)))) σ) : Op2 c ρ σ (compareOp .GtE) (.d (.int i)) (.d (.int j)) K := fun Z Y s Q X u u' S r1 r2 q => by
  (first | cases r1 using Rv.intE | cases r1 using Rv.boolE | cases r1 using Rv.noneE | cases r1 using Rv.lstE | cases r1 using Rv.tupE | cases r1 using RVs.nilE | cases r1 using Rvs.nilE | cases r1); (first | cases r2 using Rv.intE | cases r2 using Rv.boolE | cases r2 using Rv.noneE | cases r2 using Rv.lstE | cases r2 using Rv.tupE | cases r2 using RVs.nilE | cases r2 using Rvs.nilE | cases r2)
  exact PyProof.Rows.ge_int (q Z _ _ _ _ (Ext.refl Z) RV.bool h S)
theorem op_is_none {a : D} (ha : a = .none ∨ (∃ b, a = .bool b) ∨ (∃ i, a = .int i)) (h : K (.d (.bool (decide (a = .none)))) σ) : Op2 c ρ σ (compareOp .Is) (.d a) (.d .none) K := fun Z Y s Q X u u' S r1 r2 q => by
  (first | cases r2 using Rv.intE | cases r2 using Rv.boolE | cases r2 using Rv.noneE | cases r2 using Rv.lstE | cases r2 using Rv.tupE | cases r2 using RVs.nilE | cases r2 using Rvs.nilE | cases r2)
  refine is_none ?_
  have e : (u == Value.none) = decide (a = D.none) := by
    rcases ha with rfl | ⟨b, rfl⟩ | ⟨i, rfl⟩ <;> cases r1 <;> simp
  rw [e]
  exact q Z _ _ _ _ (Ext.refl Z) RV.bool h S
theorem op_isnot_none {a : D} (ha : a = .none ∨ (∃ b, a = .bool b) ∨ (∃ i, a = .int i)) (h : K (.d (.bool (!decide (a = .none)))) σ) : Op2 c ρ σ (compareOp .IsNot) (.d a) (.d .none) K := fun Z Y s Q X u u' S r1 r2 q => by
  (first | cases r2 using Rv.intE | cases r2 using Rv.boolE | cases r2 using Rv.noneE | cases r2 using Rv.lstE | cases r2 using Rv.tupE | cases r2 using RVs.nilE | cases r2 using Rvs.nilE | cases r2)
  refine isNot_none ?_
  have e : (u == Value.none) = decide (a = D.none) := by
    rcases ha with rfl | ⟨b, rfl⟩ | ⟨i, rfl⟩ <;> cases r1 <;> simp
  rw [e]
  exact q Z _ _ _ _ (Ext.refl Z) RV.bool h S

/-- membership, seen on values -/
noncomputable def isD (Z : Zone) (x : D) (y : Value) : Bool := decide (∃ d, Rv Z y d ∧ d = x)
theorem any_isD {Z : Zone} {x : D} : ∀ {vs : List Value} {ds : List D}, Rvs Z vs ds → vs.any (isD Z x) = decide (x ∈ ds)
  | _, _, .nil => by simp
  | _, _, .cons (v := v) (d := d) (vs := vs) (ds := ds) h r => by
    rw [List.any_cons, any_isD r]
    have e : isD Z x v = decide (x = d) := by
      unfold isD
      rw [Bool.eq_iff_iff]
      simp only [decide_eq_true_eq]
      constructor
      · rintro ⟨d', h', rfl⟩; exact h'.det h
      · rintro rfl; exact ⟨x, h, rfl⟩
    rw [e, Bool.eq_iff_iff]
    simp
theorem mem_Rvs {Z : Zone} : ∀ {vs : List Value} {ds : List D}, Rvs Z vs ds → ∀ {y}, y ∈ vs → ∃ d ∈ ds, Rv Z y d
  | _, _, .cons h r, _, .head _ => ⟨_, .head _, h⟩
  | _, _, .cons h r, _, .tail _ m => let ⟨d, h1, h2⟩ := mem_Rvs r m; ⟨d, .tail _ h1, h2⟩
theorem eqAt_isD {A : Around} {Zv : Zone} {s : Shared} {t : Ty} {x : D} {u : Value} {vs : List Value} {ds : List D} (k : ∀ a o, Zv a = some o → s.heap.get? a = some o) (hu : A.units + t.depth < cLine) (rx : Rv Zv u x) (r : Rvs Zv vs ds) (hx : Has t x) (hds : ∀ d ∈ ds, Has t d) :
    ∀ y ∈ vs, EqAt A s y u (isD Zv x y) := fun y hy => by
  refine hide fun P_ hP_ => ?_
  obtain ⟨d, hd, ry⟩ := mem_Rvs r hy
  refine hP_ ?_
  clear hP_ P_
  have := (rv_eq_lt _ t (Nat.le_refl _) A Zv s k hu ry rx (hds d hd) hx).1
  have e : isD Zv x y = decide (d = x) := by
    unfold isD
    rw [Bool.eq_iff_iff]
    simp only [decide_eq_true_eq]
    constructor
    · rintro ⟨d', h', rfl⟩; exact ry.det h'
    · rintro rfl; exact ⟨d, ry, rfl⟩
  rw [e]; exact this
theorem op_in_list {a b : V} {x : D} {ds : List D} {t : Ty} (ha : Vw σ a x) (hb : Vw σ b (.lst ds)) (hx : Has t x) (hds : ∀ d ∈ ds, Has t d) (hu : c.A.units + 1 + t.depth < cLine) (h : K (.d (.bool (decide (x ∈ ds)))) σ) :
    Op2 c ρ σ (compareOp .In) a b K := fun Z Y s Q X u u' S r1 r2 q => by
  refine hide fun P_ hP_ => ?_
  obtain ⟨Zv, xx, k, vw⟩ := S.view
  refine hP_ ?_
  clear hP_ P_
  have w1 := vw _ _ _ r1 ha
  cases vw _ _ _ r2 hb with
  | lst e r =>
    refine in_listAt (isD Zv x) (isList_of k e) (fun y hy => eqAt_isD (A := c.A.in1) k (by simp; (first | lia | omega)) w1 r hx hds y (by simpa using hy)) ?_
    rw [List.any_toArray, any_isD r]
    exact q Z _ _ _ _ (Ext.refl Z) RV.bool h S
theorem op_notin_list {a b : V} {x : D} {ds : List D} {t : Ty} (ha : Vw σ a x) (hb : Vw σ b (.lst ds)) (hx : Has t x) (hds : ∀ d ∈ ds, Has t d) (hu : c.A.units + 1 + t.depth < cLine) (h : K (.d (.bool (!decide (x ∈ ds)))) σ) :
    Op2 c ρ σ (compareOp .NotIn) a b K := fun Z Y s Q X u u' S r1 r2 q => by
  refine hide fun P_ hP_ => ?_
  obtain ⟨Zv, xx, k, vw⟩ := S.view
  refine hP_ ?_
  clear hP_ P_
  have w1 := vw _ _ _ r1 ha
  cases vw _ _ _ r2 hb with
  | lst e r =>
    refine notIn_listAt (isD Zv x) (isList_of k e) (fun y hy => eqAt_isD (A := c.A.in1) k (by simp; (first | lia | omega)) w1 r hx hds y (by simpa using hy)) ?_
    rw [List.any_toArray, any_isD r]
    exact q Z _ _ _ _ (Ext.refl Z) RV.bool h S
theorem op_in_tup {a b : V} {x : D} {ds : List D} {t : Ty} (ha : Vw σ a x) (hb : Vw σ b (.tup ds)) (hx : Has t x) (hds : ∀ d ∈ ds, Has t d) (hu : c.A.units + 1 + t.depth < cLine) (h : K (.d (.bool (decide (x ∈ ds)))) σ) :
    Op2 c ρ σ (compareOp .In) a b K := fun Z Y s Q X u u' S r1 r2 q => by
  refine hide fun P_ hP_ => ?_
  obtain ⟨Zv, xx, k, vw⟩ := S.view
  refine hP_ ?_
  clear hP_ P_
  have w1 := vw _ _ _ r1 ha
  cases vw _ _ _ r2 hb with
  | tup e r =>
    refine in_tupleAt (isD Zv x) (isTup_of k e) (fun y hy => eqAt_isD (A := c.A.in1) k (by simp; (first | lia | omega)) w1 r hx hds y (by simpa using hy)) ?_
    rw [List.any_toArray, any_isD r]
    exact q Z _ _ _ _ (Ext.refl Z) RV.bool h S

/-! ### subscripts -/
theorem ev_sub {l r : Expr} (h : Ev c ρ σ l fun a σ1 => Ev c ρ σ1 r fun b σ2 => Op2 c ρ σ2 (subscriptTail l r) a b K) : Ev c ρ σ (.Subscript l r pos) K := fun Z Y s Q X S q =>
  Subscript_ (h Z Y s _ X S fun Z1 ua a σ1 s1 x1 ra h1 S1 => h1 Z1 Y s1 _ X S1 fun Z2 ub b σ2 s2 x2 rb h2 S2 => h2 Z2 Y s2 Q X ua ub S2 (ra.mono x2) rb
    fun Z3 u v σ3 s3 x3 rv k S3 => q Z3 u v σ3 s3 ((x1.trans x2).trans x3) rv k S3)
theorem op_item {l r : Expr} {a : V} {ds : List D} {i : Int} {d : D} (ha : Vw σ a (.lst ds)) (h0 : 0 ≤ i) (hfit : i < 2 ^ 63) (hd : ds[i.toNat]? = some d) (h : K (.d d) σ)
    (hs : ∀ b t, subscripted r false (.ref b) (.int i t) = operate [.ref b, .int i t] (getItem (.ref b) (.int i t))) :
    Op2 c ρ σ (subscriptTail l r) a (.d (.int i)) K := fun Z Y s Q X u u' S r1 r2 q => by
  (first | cases r2 using Rv.intE | cases r2 using Rv.boolE | cases r2 using Rv.noneE | cases r2 using Rv.lstE | cases r2 using Rv.tupE | cases r2 using RVs.nilE | cases r2 using Rvs.nilE | cases r2)
  cases ha with
  | d =>
    cases r1 using Rv.lstE with
    | lst e rr =>
      refine hide fun P_ hP_ => ?_
      obtain ⟨v, hv, rv⟩ := rr.get hd
      refine hP_ ?_
      clear hP_ P_
      exact tail_any (isList_of S.g.keep e).typeIs slot_list_getitem.lookup (wpAny_getItem_list (isList_of S.g.keep e) h0 hfit (by simpa using hv) (q Z _ _ _ _ (Ext.refl Z) (show RV Z v (.d d) from rv) h S)) (hs _ _)
  | p e =>
    (first | cases r1 using Rv.intE | cases r1 using Rv.boolE | cases r1 using Rv.noneE | cases r1 using Rv.lstE | cases r1 using Rv.tupE | cases r1 using RVs.nilE | cases r1 using Rvs.nilE | cases r1)
    refine hide fun P_ hP_ => ?_
    obtain ⟨-, -, vs, n, h1, rr⟩ := S.g.lists _ _ e
    refine hP_ ?_
    clear hP_ P_
    refine hide fun P_ hP_ => ?_
    obtain ⟨v, hv, rv⟩ := rr.get hd
    refine hP_ ?_
    clear hP_ P_
    have hl : s.heap.IsList _ vs.toArray := ⟨_, h1, rfl, n, rfl⟩
    exact tail_any hl.typeIs slot_list_getitem.lookup (wpAny_getItem_list hl h0 hfit (by simpa using hv) (q Z _ _ _ _ (Ext.refl Z) (show RV Z v (.d d) from rv) h S)) (hs _ _)
theorem op_place {l r : Expr} {ds : List D} {i : Int} {j : Nat} {d : D} (hlo : -(2 ^ 63) ≤ i) (hhi : i < 2 ^ 63) (hj : seqIndex? i ds.length = some j) (hd : ds[j]? = some d) (h : K (.d d) σ)
    (hs : ∀ b t, subscripted r false (.ref b) (.int i t) = operate [.ref b, .int i t] (getItem (.ref b) (.int i t))) :
    Op2 c ρ σ (subscriptTail l r) (.d (.tup ds)) (.d (.int i)) K := fun Z Y s Q X u u' S r1 r2 q => by
  (first | cases r2 using Rv.intE | cases r2 using Rv.boolE | cases r2 using Rv.noneE | cases r2 using Rv.lstE | cases r2 using Rv.tupE | cases r2 using RVs.nilE | cases r2 using Rvs.nilE | cases r2)
  cases r1 using Rv.tupE with
  | tup e rr =>
    refine hide fun P_ hP_ => ?_
    obtain ⟨v, hv, rv⟩ := rr.get hd
    refine hP_ ?_
    clear hP_ P_
    exact item_tupleT (isTup_of S.g.keep e) hlo hhi (by rw [rr.length]; exact hj) hv (q Z _ _ _ _ (Ext.refl Z) (show RV Z v (.d d) from rv) h S) (hs _ _)
end
end Mine
namespace Mine
open PySem.SeqAt Classical

/-- a list that is made: frozen at once, or kept in the store -/
def NewL (K : V → Sto → Prop) (σ : Sto) (ds : List D) : Prop := K (.d (.lst ds)) σ ∨ ∀ a, σ a = none → K (.raw (.ref a)) (σ.set a ds)

section
variable {c : Cx} {Z Y : Zone} {ρ : Vars} {σ : Sto} {s : Shared} {K : V → Sto → Prop} {pos p1 p2 : Pos}

theorem St.newList (S : St c Z Y ρ σ s) (hk : c.Ok) {a : Addr} {vs : List Value} {n : Nat} {ds : List D} {h' : Heap} {tk : Nat} (hf : s.heap.get? a = none) (k : ∀ b o, s.heap.get? b = some o → h'.get? b = some o) (ho : h'.get? a = some (lobj vs n)) (r : Rvs Z vs ds) (hn : NewL K σ ds) :
    E3 fun Z' v σ' => A4 (Ext Z Z') (RV Z' (.ref a) v) (K v σ') (St c Z' Y ρ σ' { s with heap := h', toks := tk }) := by
  rcases hn with hn | hn
  · obtain ⟨x, S'⟩ := S.put hk (tk := tk) hf k ho
    exact ⟨_, .d (.lst ds), σ, x, Rv.lst (Zone.put_self ..) (r.mono x), hn, S'⟩
  · obtain ⟨x, S'⟩ := S.alloc hk (tk := tk) hf k ho r
    exact ⟨Z, .raw (.ref a), _, Ext.refl Z, rfl, hn a x, S'⟩
theorem get_push {h : Heap} {o : Obj} (hf : o.isFreed = false) : (h.push o).get? h.objs.size = some o := Heap.get?_push_size h hf
theorem get_size (h : Heap) : h.get? h.objs.size = none := by
  cases q : h.get? h.objs.size with
  | none => rfl
  | some o => exact absurd (Heap.lt_size q) (Nat.lt_irrefl _)

/-! ### displays -/
theorem evs_nil {K : List V → Sto → Prop} (h : K [] σ) : Evs c ρ σ pos [] K := fun Z Y s Q X S q => wpAny_items_nil (q Z [] [] σ s (Ext.refl Z) .nil h S)
theorem evs_cons {e : Expr} {es : List Expr} {K : List V → Sto → Prop} (h : Ev c ρ σ e fun v σ1 => Evs c ρ σ1 pos es fun vs σ2 => K (v :: vs) σ2) (he : starEach (e :: es) c.env = (false, eval e c.env) :: starEach es c.env) : Evs c ρ σ pos (e :: es) K := fun Z Y s Q X S q =>
  wpAny_items_cons (h Z Y s _ X S fun Z1 u v σ1 s1 x1 r1 h1 S1 => h1 Z1 Y s1 _ X S1 fun Z2 us vs σ2 s2 x2 r2 k2 S2 => q Z2 (u :: us) (v :: vs) σ2 s2 (x1.trans x2) (.cons (r1.mono x2) r2) k2 S2) he
theorem ev_list (hk : c.Ok) {es : List Expr} (h : Evs c ρ σ pos es fun vs σ1 => ∃ ds : List D, A3 (vs = ds.map V.d) (ds.length ≤ 1000000) (NewL K σ1 ds)) : Ev c ρ σ (.List es pos) K := fun Z Y s Q X S q =>
  wpAny_List (h Z Y s _ X S fun Z1 us vs σ1 s1 x1 r1 k1 S1 => by
    refine hide fun P_ hP_ => ?_
    obtain ⟨ds, rfl, hz, hn⟩ := k1
    refine hP_ ?_
    clear hP_ P_
    have hlen := r1.length
    rw [List.length_map] at hlen
    refine ⟨by rw [sizeLine_eq]; (first | lia | omega), ?_⟩
    refine hide fun P_ hP_ => ?_
    obtain ⟨Z', v, σ', x, rv, kv, S'⟩ := S1.newList hk (tk := s1.toks) (n := 0) (get_size _) (fun b o e => Heap.get?_push_of_some _ e) (get_push rfl) r1.ds hn
    refine hP_ ?_
    clear hP_ P_
    exact q Z' _ v σ' _ (x1.trans x) rv kv S')
theorem ev_tuple (hk : c.Ok) {es : List Expr} {k : Nat} (h : Evs c ρ σ pos es fun vs σ1 => ∃ ds : List D, A3 (vs = ds.map V.d) (ds.length ≤ 1000000) (K (.d (.tup ds)) σ1)) : Ev c ρ σ (.Tuple es k pos) K := fun Z Y s Q X S q =>
  wpAny_Tuple (h Z Y s _ X S fun Z1 us vs σ1 s1 x1 r1 k1 S1 => by
    refine hide fun P_ hP_ => ?_
    obtain ⟨ds, rfl, hz, hn⟩ := k1
    refine hP_ ?_
    clear hP_ P_
    have hlen := r1.length
    rw [List.length_map] at hlen
    refine ⟨by rw [sizeLine_eq]; (first | lia | omega), ?_⟩
    obtain ⟨x, S'⟩ := S1.put hk (tk := s1.toks) (get_size _) (fun b o e => Heap.get?_push_of_some _ e) (get_push (o := tobj us 0) rfl)
    exact q _ _ (.d (.tup ds)) σ1 _ (x1.trans x) (Rv.tup (Zone.put_self ..) (r1.ds.mono x)) hn S')

/-! ### list + list -/
theorem op_add_list (hk : c.Ok) {a b : V} {ds es : List D} (ha : Vw σ a (.lst ds)) (hb : Vw σ b (.lst es)) (hz : ds.length + es.length ≤ 1000000) (hn : NewL K σ (ds ++ es)) : Op2 c ρ σ (binaryOp .Add) a b K := fun Z Y s Q X u u' S r1 r2 q => by
  have get : ∀ {v : V} {d : List D} {w : Value}, Vw σ v (.lst d) → RV Z w v → E3 fun x vs n => A3 (w = .ref x) (IsL s.heap x vs.toArray n) (Rvs Z vs d) := by
    intro v d w hv hr
    cases hv with
    | d => cases hr using Rv.lstE with
      | lst e r => exact ⟨_, _, _, rfl, S.g.keep _ _ e, r⟩
    | p e =>
      (first | cases hr using Rv.intE | cases hr using Rv.boolE | cases hr using Rv.noneE | cases hr using Rv.lstE | cases hr using Rv.tupE | cases hr using RVs.nilE | cases hr using Rvs.nilE | cases hr)
      refine hide fun P_ hP_ => ?_
      obtain ⟨vs, n, h1, h2⟩ := S.g.isList e
      refine hP_ ?_
      clear hP_ P_
      exact ⟨_, vs, n, rfl, h1, h2⟩
  refine hide fun P_ hP_ => ?_
  obtain ⟨x, vs, n, rfl, h1, h2⟩ := get ha r1
  refine hP_ ?_
  clear hP_ P_
  refine hide fun P_ hP_ => ?_
  obtain ⟨y, ws, m, rfl, h3, h4⟩ := get hb r2
  refine hP_ ?_
  clear hP_ P_
  have l1 := h2.length; have l2 := h4.length
  refine hide fun P_ hP_ => ?_
  obtain ⟨Z', v, σ', xx, rv, kv, S'⟩ := S.newList hk (tk := s.toks) (n := 0) (h' := s.heap.push (lobj (vs ++ ws) 0)) (get_size _) (fun b o e => Heap.get?_push_of_some _ e) (get_push rfl) (h2.append h4) hn
  refine hP_ ?_
  clear hP_ P_
  refine P.add_list h1 h3 ?_ (by rw [sizeLine_eq]; simp; (first | lia | omega))
  have e : vs.toArray ++ ws.toArray = (vs ++ ws).toArray := by simp
  rw [e]
  exact q Z' _ v σ' _ xx rv kv S'

/-! ### slices -/
def EvP (c : Cx) (ρ : Vars) (σ : Sto) (x : Option Expr) (K : V → Sto → Prop) : Prop := Tr c ρ σ (evalPart x c.env) K
theorem evp_none (h : K (.d .none) σ) : EvP c ρ σ none K := fun Z Y s Q X S q => by
  rw [evalPart_none]; exact wpAny_pure (q Z _ _ σ s (Ext.refl Z) RV.none h S)
theorem evp_some {e : Expr} (h : Ev c ρ σ e K) : EvP c ρ σ (some e) K := h
/-- what a part is -/
inductive Part : V → Option Int → Prop
  | none : Part (.d .none) none
  | int (i) : Part (.d (.int i)) (some i)
theorem Part.is {v : V} {k : Option Int} (h : Part v k) {Z : Zone} {u : Value} (r : RV Z u v) : IsPart u k := by
  cases h <;> cases r <;> constructor
theorem subscripted_slice (lo up st : Option Expr) (p : Pos) (o i : Value) : ∃ ops, subscripted (.Slice lo up st p) false o i = operate ops (getItem o i) := by
  cases st with
  | none => exact ⟨_, rfl⟩
  | some e => exact ⟨_, rfl⟩
theorem ev_slice {l : Expr} {lo up st : Option Expr} {a b st' : Option Int} {ds es : List D} (hk : c.Ok)
    (h : Ev c ρ σ l fun v σ1 => EvP c ρ σ1 lo fun v1 σ2 => EvP c ρ σ2 up fun v2 σ3 => EvP c ρ σ3 st fun v3 σ4 => E3 fun ds es a => E2 fun b t => A6 (Vw σ4 v (.lst ds)) (Part v1 a) (Part v2 b) (Part v3 t) (t ≠ some 0) (A3 (ds.length ≤ 1000000) (∀ Z (vs : List Value), Rvs Z vs ds → ∃ ws, slicePick vs.toArray a b t = List.toArray ws ∧ Rvs Z ws es) (NewL K σ4 es))) :
    Ev c ρ σ (.Subscript l (.Slice lo up st p1) pos) K := fun Z Y s Q X S q => by
  refine Subscript_ (h Z Y s _ X S fun Z1 u σ_v σ1 s1 x1 r1 h1 S1 => wpAny_Slice (h1 Z1 Y s1 _ X S1 fun Z2 u2 v2 σ2 s2 x2 r2 h2 S2 => h2 Z2 Y s2 _ X S2 fun Z3 u3 v3 σ3 s3 x3 r3 h3 S3 => h3 Z3 Y s3 _ X S3 fun Z4 u4 v4 σ4 s4 x4 r4 h4 S4 => ?_))
  refine hide fun P_ hP_ => ?_
  obtain ⟨ds, es, a, b, t, hv, p2', p3, p4, ht, hz, hp, hn⟩ := h4
  refine hP_ ?_
  clear hP_ P_
  have r1' := ((r1.mono x2).mono x3).mono x4
  have q2 := p2'.is ((r2.mono x3).mono x4)
  have q3 := p3.is (r3.mono x4)
  have q4 := p4.is r4
  have get : E3 fun x vs n => A3 (u = .ref x) (IsL s4.heap x vs.toArray n) (Rvs Z4 vs ds) := by
    cases hv with
    | d => cases r1' with
      | lst e r => exact ⟨_, _, _, rfl, S4.g.keep _ _ e, r⟩
    | p e =>
      cases r1'
      refine hide fun P_ hP_ => ?_
      obtain ⟨vs, n, h1, h2⟩ := S4.g.isList e
      refine hP_ ?_
      clear hP_ P_
      exact ⟨_, vs, n, rfl, h1, h2⟩
  refine hide fun P_ hP_ => ?_
  obtain ⟨x, vs, n, rfl, g1, g2⟩ := get
  refine hP_ ?_
  clear hP_ P_
  refine hide fun P_ hP_ => ?_
  obtain ⟨ws, e1, e2⟩ := hp Z4 vs g2
  refine hP_ ?_
  clear hP_ P_
  have hl : (s4.heap.push { cls := .type "slice", data := .fields #[u2, u3, u4] }).IsList x vs.toArray := (IsL.isList g1).push _
  obtain ⟨ops, hs⟩ := subscripted_slice lo up st p1 (.ref x) (.ref s4.heap.objs.size)
  refine tail_any (s := { s4 with heap := s4.heap.push { cls := .type "slice", data := .fields #[u2, u3, u4] } }) hl.typeIs slot_list_getitem.lookup (wpAny_getItem_list_slice hl (Heap.IsSliceOf.new ..) q2 q3 q4 ht ?_ (by have := g2.length; rw [sizeLine_eq]; simp; (first | lia | omega))) hs
  rw [e1]
  have f1 : ∀ b o, s4.heap.get? b = some o → ((s4.heap.push { cls := .type "slice", data := .fields #[u2, u3, u4] }).push (lobj ws 0)).get? b = some o := fun b o e => Heap.get?_push_of_some _ (Heap.get?_push_of_some _ e)
  obtain ⟨Z', v, σ', xx, rv, kv, S'⟩ := S4.newList hk (a := s4.heap.objs.size + 1) (tk := s4.toks) (n := 0) (h' := (s4.heap.push { cls := .type "slice", data := .fields #[u2, u3, u4] }).push (lobj ws 0))
    (Heap.get?_none_of_le (Nat.le_succ _)) f1 (by have := get_push (h := s4.heap.push { cls := .type "slice", data := .fields #[u2, u3, u4] }) (o := lobj ws 0) rfl; rw [Heap.size_push] at this; exact this) e2 hn
  show Q (.ref (s4.heap.push { cls := .type "slice", data := .fields #[u2, u3, u4] }).objs.size) _
  rw [Heap.size_push]
  exact q Z' _ v σ' _ ((((x1.trans x2).trans x3).trans x4).trans xx) rv kv S'
theorem pick_upto {ds : List D} (b : Nat) : ∀ Z (vs : List Value), Rvs Z vs ds → ∃ ws, slicePick vs.toArray none (some (b : Int)) none = List.toArray ws ∧ Rvs Z ws (ds.take b) := fun Z vs r =>
  ⟨_, slicePick_upto' _ b, by simpa using r.take⟩
theorem pick_from {ds : List D} (b : Nat) : ∀ Z (vs : List Value), Rvs Z vs ds → ∃ ws, slicePick vs.toArray (some (b : Int)) none none = List.toArray ws ∧ Rvs Z ws (ds.drop b) := fun Z vs r =>
  ⟨_, slicePick_from' _ b, by simpa using r.drop⟩
theorem pick_rev {ds : List D} : ∀ Z (vs : List Value), Rvs Z vs ds → ∃ ws, slicePick vs.toArray none none (some (-1)) = List.toArray ws ∧ Rvs Z ws ds.reverse := fun Z vs r =>
  ⟨_, krv_pick _, by simpa using r.reverse⟩
end
end Mine
namespace Mine
open PySem.SeqAt Classical

section
variable {prog : Program} {w : World} {A : Around} {E : Value → Shared → Prop} {s : Shared}
theorem slicePart_part {v : Value} {k : Option Int} (h : IsPart v k) {Q : Option Int → Shared → Prop} (hq : Q k s) : wpAny (model prog w) A (Builtin.Slice.slicePartIndex v) Q E s := by
  cases h with
  | none => exact slicePart_none hq
  | int i t => exact slicePart_int hq
theorem getItem_tuple_slice {t sl : Addr} {items : Array Value} {vl vu vs : Value} {lo hi st : Option Int} {Q : Value → Shared → Prop} (ht : s.heap.IsTuple t items) (hs : s.heap.IsSliceOf sl vl vu vs)
    (pl : IsPart vl lo) (pu : IsPart vu hi) (ps : IsPart vs st) (h0 : st.getD 1 ≠ 0)
    (hno : ((Builtin.Slice.sliceAdjust lo hi (st.getD 1) (items.size : Int)).1 == 0 && st.getD 1 == 1 && Builtin.Slice.slicePlaces (Builtin.Slice.sliceAdjust lo hi (st.getD 1) (items.size : Int)).1 (Builtin.Slice.sliceAdjust lo hi (st.getD 1) (items.size : Int)).2 (st.getD 1) == items.size) = false)
    {ws : List Value} (hw : ((List.range (Builtin.Slice.slicePlaces (Builtin.Slice.sliceAdjust lo hi (st.getD 1) (items.size : Int)).1 (Builtin.Slice.sliceAdjust lo hi (st.getD 1) (items.size : Int)).2 (st.getD 1))).filterMap fun (k : Nat) => items[((Builtin.Slice.sliceAdjust lo hi (st.getD 1) (items.size : Int)).1 + (k : Int) * st.getD 1).toNat]?) = ws)
    (h : Q (.ref s.heap.objs.size) { s with heap := s.heap.push { cls := .type "tuple", data := .seq ws.toArray } })
    (hsz : ws.length ≤ sizeLine) : wpAny (model prog w) A (getItem (.ref t) (.ref sl)) Q E s := by
  have hdrop : sizeOk (.seq ws.toArray) := by
    show ws.toArray.size ≤ sizeLine
    rw [List.size_toArray]; exact hsz
  refine hide fun P_ hP_ => ?_
  obtain ⟨os, hos, hcs, hds⟩ := id hs
  refine hP_ ?_
  clear hP_ P_
  have hTs : s.TypeIs (.ref sl) "slice" := ⟨os, hos, hcs⟩
  unfold getItem
  try with_reducible refine wpAny_holding ?_
  first | refine wpAny_bind (wpAny_pure ?_) | skip
  refine wpAny_bind (wpAny_sequenceKey ht.typeIs (by decide) ?_)
  refine wpAny_bind (wpAny_callSpecial?_slot (name := Str.ofString "__getitem__") ht.typeIs slot_tuple_getitem
    (wpAny_call_entry slot_tuple_getitem ht.typeIs entry_tuple_getitem ?_ (args_tuple_getitem _ _)))
  show wpAny _ _ (Builtin.Tuple.tupleItemsOf (.ref t) >>= _) _ _ s
  refine wpAny_bind (tupleItemsOf_ ht ?_)
  refine wpAny_bind (wpAny_typeOf hTs ?_)
  rw [if_pos (by decide)]
  refine wpAny_bind (m := Builtin.Slice.sliceApplied (.ref sl) _) ?_
  · unfold Builtin.Slice.sliceApplied Builtin.Slice.sliceFields
    refine wpAny_bind (wpAny_bind (wpAny_field hos hds (x := vl) rfl (wpAny_bind (wpAny_field hos hds (x := vu) rfl (wpAny_bind (wpAny_field hos hds (x := vs) rfl (wpAny_pure ?_)))))))
    refine wpAny_bind (slicePart_part ps ?_)
    dsimp only
    rw [if_neg (by simpa using h0)]
    refine wpAny_bind (slicePart_part pl (wpAny_bind (slicePart_part pu (wpAny_bind (wpAny_pure ?_)))))
    refine wpAny_pure ?_
    dsimp only
    rw [if_neg (by rw [hno]; exact Bool.false_ne_true), hw]
    first
      | exact wpAny_bind (m := Builtin.Tuple.tupleExact _) (wpAny_newObj_type (wpAny_pure ⟨_, rfl, wpAny_pure h⟩) hdrop)
      | exact wpAny_bind (m := Builtin.Tuple.tupleExact _) (wpAny_newObj_type (wpAny_bind (wpAny_pure (wpAny_pure ⟨_, rfl, wpAny_pure h⟩))) hdrop)
      | exact wpAny_bind (wpAny_bind (m := Builtin.Tuple.tupleExact _) (wpAny_newObj_type (wpAny_pure (wpAny_pure ⟨_, rfl, wpAny_pure h⟩)) hdrop))
      | exact wpAny_bind (wpAny_bind (m := Builtin.Tuple.tupleExact _) (wpAny_newObj_type (wpAny_pure ⟨_, rfl, wpAny_pure h⟩) hdrop))
end

section
variable {c : Cx} {Z Y : Zone} {ρ : Vars} {σ : Sto} {s : Shared} {K : V → Sto → Prop} {pos p1 p2 : Pos}

theorem ev_tslice {l : Expr} {lo up st : Option Expr} (hk : c.Ok)
    (h : Ev c ρ σ l fun v σ1 => EvP c ρ σ1 lo fun v1 σ2 => EvP c ρ σ2 up fun v2 σ3 => EvP c ρ σ3 st fun v3 σ4 => E3 fun (a : Option Int) (b : Option Int) (t : Option Int) => E2 fun (ds : List D) (es : List D) => A7 (v = .d (.tup ds)) (Part v1 a) (Part v2 b) (Part v3 t) (t.getD 1 ≠ 0) (∀ (xs : Array Value), xs.size = ds.length → ((Builtin.Slice.sliceAdjust a b (t.getD 1) (xs.size : Int)).1 == 0 && t.getD 1 == 1 && Builtin.Slice.slicePlaces (Builtin.Slice.sliceAdjust a b (t.getD 1) (xs.size : Int)).1 (Builtin.Slice.sliceAdjust a b (t.getD 1) (xs.size : Int)).2 (t.getD 1) == xs.size) = false) (A3 (es.length ≤ 1000000) (∀ Z (vs : List Value), Rvs Z vs ds → ∃ ws, ((List.range (Builtin.Slice.slicePlaces (Builtin.Slice.sliceAdjust a b (t.getD 1) (vs.toArray.size : Int)).1 (Builtin.Slice.sliceAdjust a b (t.getD 1) (vs.toArray.size : Int)).2 (t.getD 1))).filterMap fun (k : Nat) => vs.toArray[((Builtin.Slice.sliceAdjust a b (t.getD 1) (vs.toArray.size : Int)).1 + (k : Int) * t.getD 1).toNat]?) = ws ∧ Rvs Z ws es) (K (.d (.tup es)) σ4))) :
    Ev c ρ σ (.Subscript l (.Slice lo up st p1) pos) K := fun Z Y s Q X S q => by
  refine Subscript_ (h Z Y s _ X S fun Z1 u σ_v σ1 s1 x1 r1 h1 S1 => wpAny_Slice (h1 Z1 Y s1 _ X S1 fun Z2 u2 v2 σ2 s2 x2 r2 h2 S2 => h2 Z2 Y s2 _ X S2 fun Z3 u3 v3 σ3 s3 x3 r3 h3 S3 => h3 Z3 Y s3 _ X S3 fun Z4 u4 v4 σ4 s4 x4 r4 h4 S4 => ?_))
  refine hide fun P_ hP_ => ?_
  obtain ⟨a, b, t, ds, es, rfl, p2', p3, p4, ht, hno, hz, hp, hn⟩ := h4
  refine hP_ ?_
  clear hP_ P_
  have r1' := ((r1.mono x2).mono x3).mono x4
  have q2 := p2'.is ((r2.mono x3).mono x4)
  have q3 := p3.is (r3.mono x4)
  have q4 := p4.is r4
  cases r1' with
  | tup e g2 =>
    rename_i x vs n
    refine hide fun P_ hP_ => ?_
    obtain ⟨ws, e1, e2⟩ := hp Z4 vs g2
    refine hP_ ?_
    clear hP_ P_
    have g1 := S4.g.keep _ _ e
    have hl : (s4.heap.push { cls := .type "slice", data := .fields #[u2, u3, u4] }).IsTuple x vs.toArray := ⟨_, Heap.get?_push_of_some _ g1, rfl, n, rfl⟩
    obtain ⟨ops, hs⟩ := subscripted_slice lo up st p1 (.ref x) (.ref s4.heap.objs.size)
    refine tail_any (s := { s4 with heap := s4.heap.push { cls := .type "slice", data := .fields #[u2, u3, u4] } }) hl.typeIs slot_tuple_getitem.lookup (getItem_tuple_slice hl (Heap.IsSliceOf.new ..) q2 q3 q4 ht (hno _ (by rw [List.size_toArray]; exact g2.length)) e1 ?_ (by have := e2.length; rw [sizeLine_eq]; (first | lia | omega))) hs
    have f1 : ∀ b o, s4.heap.get? b = some o → ((s4.heap.push { cls := .type "slice", data := .fields #[u2, u3, u4] }).push (tobj ws 0)).get? b = some o := fun b o e => Heap.get?_push_of_some _ (Heap.get?_push_of_some _ e)
    obtain ⟨xx, S'⟩ := S4.put hk (a := s4.heap.objs.size + 1) (tk := s4.toks) (o := tobj ws 0) (h' := (s4.heap.push { cls := .type "slice", data := .fields #[u2, u3, u4] }).push (tobj ws 0))
      (Heap.get?_none_of_le (Nat.le_succ _)) f1 (by have := get_push (h := s4.heap.push { cls := .type "slice", data := .fields #[u2, u3, u4] }) (o := tobj ws 0) rfl; rw [Heap.size_push] at this; exact this)
    show Q (.ref (s4.heap.push { cls := .type "slice", data := .fields #[u2, u3, u4] }).objs.size) _
    rw [Heap.size_push]
    exact q _ _ (.d (.tup es)) σ4 _ ((((x1.trans x2).trans x3).trans x4).trans xx) (Rv.tup (Zone.put_self ..) (e2.mono xx)) hn S'

theorem rvs4 {Z : Zone} {vs : List Value} {a b c d : D} (r : Rvs Z vs [a, b, c, d]) : E4 fun v0 v1 v2 v3 => A5 (vs = [v0, v1, v2, v3]) (Rv Z v0 a) (Rv Z v1 b) (Rv Z v2 c) (Rv Z v3 d) := by
  cases r using Rvs.consE with | cons h0 r => cases r using Rvs.consE with | cons h1 r => cases r using Rvs.consE with | cons h2 r => cases r using Rvs.consE with | cons h3 r => (first | cases r using Rv.intE | cases r using Rv.boolE | cases r using Rv.noneE | cases r using Rv.lstE | cases r using Rv.tupE | cases r using RVs.nilE | cases r using Rvs.nilE | cases r); exact ⟨_, _, _, _, rfl, h0, h1, h2, h3⟩
/-- t[2:] of four -/
theorem ev_tslice2 {l : Expr} {lo : Expr} (hk : c.Ok) (h : Ev c ρ σ l fun v σ1 => Ev c ρ σ1 lo fun v1 σ2 => v1 = .d (.int 2) ∧ E4 fun a b e f => v = .d (.tup [a, b, e, f]) ∧ K (.d (.tup [e, f])) σ2) :
    Ev c ρ σ (.Subscript l (.Slice (some lo) none none p1) pos) K := by
  refine ev_tslice hk (Tr.mono h fun v σ1 h1 => evp_some (Tr.mono h1 fun v1 σ2 h2 => evp_none (evp_none ?_)))
  refine hide fun P_ hP_ => ?_
  obtain ⟨rfl, a, b, e, f, rfl, k⟩ := h2
  refine hP_ ?_
  clear hP_ P_
  refine ⟨some 2, none, none, [a, b, e, f], [e, f], rfl, .int 2, .none, .none, by decide, fun xs hx => by rw [hx]; rfl, by simp, fun Z vs r => ?_, k⟩
  refine hide fun P_ hP_ => ?_
  obtain ⟨v0, v1, v2, v3, rfl, h0, h1, h2, h3⟩ := rvs4 r
  refine hP_ ?_
  clear hP_ P_
  refine ⟨[v2, v3], ?_, .cons h2 (.cons h3 .nil)⟩
  show List.filterMap (fun (k : Nat) => #[v0, v1, v2, v3][((Builtin.Slice.sliceAdjust (some 2) none 1 (4 : Int)).1 + (k : Int) * 1).toNat]?) (List.range (Builtin.Slice.slicePlaces (Builtin.Slice.sliceAdjust (some 2) none 1 (4 : Int)).1 (Builtin.Slice.sliceAdjust (some 2) none 1 (4 : Int)).2 1)) = [v2, v3]
  rw [show Builtin.Slice.sliceAdjust (some 2) none 1 (4 : Int) = (2, 4) from by decide, show Builtin.Slice.slicePlaces (2, (4 : Int)).1 (2, (4 : Int)).2 1 = 2 from by decide]
  rfl
/-- t[:1:-1] of four -/
theorem ev_tsliceR {l : Expr} {up st : Expr} (hk : c.Ok) (h : Ev c ρ σ l fun v σ1 => Ev c ρ σ1 up fun v1 σ2 => Ev c ρ σ2 st fun v2 σ3 => v1 = .d (.int 1) ∧ v2 = .d (.int (-1)) ∧ E4 fun a b e f => v = .d (.tup [a, b, e, f]) ∧ K (.d (.tup [f, e])) σ3) :
    Ev c ρ σ (.Subscript l (.Slice none (some up) (some st) p1) pos) K := by
  refine ev_tslice hk (Tr.mono h fun v σ1 h1 => evp_none (evp_some (Tr.mono h1 fun v1 σ2 h2 => evp_some (Tr.mono h2 fun v2 σ3 h3 => ?_))))
  refine hide fun P_ hP_ => ?_
  obtain ⟨rfl, rfl, a, b, e, f, rfl, k⟩ := h3
  refine hP_ ?_
  clear hP_ P_
  refine ⟨none, some 1, some (-1), [a, b, e, f], [f, e], rfl, .none, .int 1, .int (-1), by decide, fun xs hx => by rw [hx]; rfl, by simp, fun Z vs r => ?_, k⟩
  refine hide fun P_ hP_ => ?_
  obtain ⟨v0, v1, v2, v3, rfl, h0, h1, h2, h3⟩ := rvs4 r
  refine hP_ ?_
  clear hP_ P_
  refine ⟨[v3, v2], ?_, .cons h3 (.cons h2 .nil)⟩
  show List.filterMap (fun (k : Nat) => #[v0, v1, v2, v3][((Builtin.Slice.sliceAdjust none (some 1) (-1) (4 : Int)).1 + (k : Int) * (-1)).toNat]?) (List.range (Builtin.Slice.slicePlaces (Builtin.Slice.sliceAdjust none (some 1) (-1) (4 : Int)).1 (Builtin.Slice.sliceAdjust none (some 1) (-1) (4 : Int)).2 (-1))) = [v3, v2]
  rw [show Builtin.Slice.sliceAdjust none (some 1) (-1) (4 : Int) = (3, 1) from by decide, show Builtin.Slice.slicePlaces (3, (1 : Int)).1 (3, (1 : Int)).2 (-1) = 2 from by decide]
  rfl
theorem ev_neg (hk : c.Ok) {e : Expr} (h : Ev c ρ σ e fun v σ1 => ∃ i, v = .d (.int i) ∧ K (.d (.int (-i))) σ1) : Ev c ρ σ (.UnaryOp .USub e pos) K := fun Z Y s Q X S q =>
  wpAny_UnaryOp (h Z Y s _ X S fun Z1 u v σ1 s1 x1 r1 h1 S1 => by
    refine hide fun P_ hP_ => ?_
    obtain ⟨i, rfl, k⟩ := h1
    refine hP_ ?_
    clear hP_ P_
    (first | cases r1 using Rv.intE | cases r1 using Rv.boolE | cases r1 using Rv.noneE | cases r1 using Rv.lstE | cases r1 using Rv.tupE | cases r1 using RVs.nilE | cases r1 using Rvs.nilE | cases r1)
    exact PyProof.Rows.neg_int (q Z1 _ _ _ _ x1 RV.int k (S1.tok hk)))

/-! ### a def's contract -/
/-- what a call of the def at f with these arguments does, wherever it is called -/
def Fn (K0 : Frag) (prog : Program) (w : World) (r0 : Shared) (dep un : Nat) (f : Addr) (as : List V) (σ : Sto) (K : V → Sto → Prop) : Prop :=
  ∀ (A : Around) (Z Y : Zone) (s : Shared) (Q : Value → Shared → Prop) (X : Value → Shared → Prop) (us : List Value), A.handled = none → A.depth + dep < recursionLimit → A.units + un < cLine → Bs K0 r0 → G r0 Z Y σ s → RVs Z us as →
    (∀ Z' u v σ' s', Ext Z Z' → RV Z' u v → K v σ' → G r0 Z' Y σ' s' → Q u s') → wpAny (model prog w) A (call (.ref f) us) Q X s

/-- the frame joins the kept part while another runs -/
noncomputable def St.lend (c : Cx) (Y : Zone) (s : Shared) : Zone := fun a => if a ∈ c.own ∨ ∃ x, c.env.cells.lookup x = some a then s.heap.get? a else Y a
theorem St.lendG (S : St c Z Y ρ σ s) : G c.r0 Z (St.lend c Y s) σ s := by
  have hz : ∀ a, (a ∈ c.own ∨ ∃ x, c.env.cells.lookup x = some a) → Z a = none ∧ σ a = none := fun a ha => by
    rcases ha with ha | ⟨x, ha⟩
    · exact ⟨(S.own a ha).1, (S.own a ha).2.2.1⟩
    · refine ⟨?_, S.notCell x a ha⟩
      rcases (S.cells x a ha).2 with h | ⟨o, h⟩
      · exact (S.own a h).1
      · exact S.g.zy a o h
  refine ⟨S.g.same, S.g.base, S.g.keep, fun a o e => ?_, fun a o e => ?_, fun a l e => ?_⟩
  · unfold St.lend at e
    split at e
    · exact e
    · exact S.g.keepY a o e
  · unfold St.lend at e
    split at e
    · rename_i q; exact (hz a q).1
    · exact S.g.zy a o e
  · refine hide fun P_ hP_ => ?_
    obtain ⟨h1, h2, h3⟩ := S.g.lists a l e
    refine hP_ ?_
    clear hP_ P_
    refine ⟨h1, ?_, h3⟩
    unfold St.lend
    split
    · rename_i q; rw [(hz a q).2] at e; cases e
    · exact h2
theorem St.back (S : St c Z Y ρ σ s) (hk : c.Ok) {Z' : Zone} {σ' : Sto} {s' : Shared} (x : Ext Z Z') (g : G c.r0 Z' (St.lend c Y s) σ' s') : St c Z' Y ρ σ' s' := by
  have kept : ∀ a o, (a ∈ c.own ∨ ∃ x, c.env.cells.lookup x = some a) → s.heap.get? a = some o → s'.heap.get? a = some o := fun a o h e =>
    g.keepY a o (by unfold St.lend; rw [if_pos h]; exact e)
  have lendNone : ∀ a, Y a ≠ none → St.lend c Y s a ≠ none := fun a h => by
    unfold St.lend
    split
    · obtain ⟨o, ho⟩ : ∃ o, Y a = some o := Option.ne_none_iff_exists'.mp h
      rw [S.g.keepY a o ho]; simp
    · exact h
  have yl : ∀ a o, Y a = some o → St.lend c Y s a = some o := fun a o e => by
    unfold St.lend
    split
    · exact S.g.keepY a o e
    · exact e
  refine ⟨⟨g.same, g.base, g.keep, fun a o e => g.keepY a o (yl a o e), fun a o e => g.zy a o (yl a o e), fun a l e => ?_⟩, ?_, fun y v e hy => ?_, fun y a e => ?_, fun a ha => ?_⟩
  · refine hide fun P_ hP_ => ?_
    obtain ⟨h1, h2, h3⟩ := g.lists a l e
    refine hP_ ?_
    clear hP_ P_
    refine ⟨h1, ?_, h3⟩
    cases q : Y a with
    | none => rfl
    | some o => exact absurd h2 (lendNone a (by rw [q]; simp))
  · refine hide fun P_ hP_ => ?_
    obtain ⟨m, ⟨o, es, ep, h1, h2⟩, hm⟩ := S.ns
    refine hP_ ?_
    clear hP_ P_
    refine ⟨m, ⟨o, es, ep, kept _ _ (.inl hk.L) h1, h2⟩, fun y v e hy => ?_⟩
    refine hide fun P_ hP_ => ?_
    obtain ⟨u, e1, e2⟩ := hm y v e hy
    refine hP_ ?_
    clear hP_ P_
    exact ⟨u, e1, e2.mono x⟩
  · refine hide fun P_ hP_ => ?_
    obtain ⟨a, u, e1, ⟨o, e2, e3⟩, e4⟩ := S.cell y v e hy
    refine hP_ ?_
    clear hP_ P_
    exact ⟨a, u, e1, ⟨o, kept _ _ (.inr ⟨_, e1⟩) e2, e3⟩, e4.mono x⟩
  · refine hide fun P_ hP_ => ?_
    obtain ⟨⟨u, o, e2, e3⟩, e4⟩ := S.cells y a e
    refine hP_ ?_
    clear hP_ P_
    exact ⟨⟨u, o, kept _ _ (.inr ⟨_, e⟩) e2, e3⟩, e4⟩
  · refine hide fun P_ hP_ => ?_
    obtain ⟨h1, h2, h3, o, h4⟩ := S.own a ha
    refine hP_ ?_
    clear hP_ P_
    have hl : St.lend c Y s a = some o := by unfold St.lend; rw [if_pos (.inl ha)]; exact h4
    refine ⟨g.zy a o hl, h2, ?_, o, kept _ _ (.inl ha) h4⟩
    cases q : σ' a with
    | none => rfl
    | some l => have := (g.lists a l q).2.1; rw [hl] at this; cases this
theorem cl_fn (hk : c.Ok) {dep un : Nat} {f : Addr} {as : List V} (h : Fn c.K c.prog c.w c.r0 dep un f as σ K) (hd : c.A.depth + dep < recursionLimit) (hu : c.A.units + un < cLine) : Cl c ρ σ (.ref f) as K := fun Z Y s Q X us S r q =>
  h c.A Z (St.lend c Y s) s Q X us hk.hand hd hu hk.bs S.lendG r fun Z' u v σ' s' x rv kv g => q Z' u v σ' s' x rv kv (S.back hk x g)

/-! ### calls by a name -/
theorem ev_call_fn {x : Str} {f : Addr} {e : Expr} {es : List Expr} (hk : c.Ok) {o : Obj} {fd : FuncData} (ho : c.K.lookup f = some o) (hd : o.data = .func fd)
    (h : Ev c ρ σ (.Name x p1) fun fv σ1 => fv = .raw (.ref f) ∧ Evs c ρ σ1 pos (e :: es) fun as σ2 => Cl c ρ σ2 (.ref f) as K) (he : starEach (e :: es) c.env = (false, eval e c.env) :: starEach es c.env) :
    Ev c ρ σ (.Call (.Name x p1) (e :: es) [] pos) K := fun Z Y s Q X S q => by
  refine Call_Name rfl (h Z Y s _ X S fun Z1 u v σ1 s1 x1 r1 h1 S1 => ?_)
  obtain ⟨rfl, h1⟩ := h1
  (first | cases r1 using Rv.intE | cases r1 using Rv.boolE | cases r1 using Rv.noneE | cases r1 using Rv.lstE | cases r1 using Rv.tupE | cases r1 using RVs.nilE | cases r1 using Rvs.nilE | cases r1)
  refine callWith_def (o := o) hd (h1 Z1 Y s1 _ X S1 fun Z2 us vs σ2 s2 x2 r2 h2 S2 => ⟨?_, h2 Z2 Y s2 Q X us S2 r2 fun Z3 u v σ3 s3 x3 rv k S3 => q Z3 u v σ3 s3 ((x1.trans x2).trans x3) rv k S3⟩) he
  exact S2.g.keep _ _ (S2.g.base _ _ (hk.bs.K _ _ ho))
theorem ev_call_fn0 {x : Str} {f : Addr} (hk : c.Ok) {o : Obj} {fd : FuncData} (ho : c.K.lookup f = some o) (hd : o.data = .func fd)
    (h : Ev c ρ σ (.Name x p1) fun fv σ1 => fv = .raw (.ref f) ∧ Cl c ρ σ1 (.ref f) [] K) :
    Ev c ρ σ (.Call (.Name x p1) [] [] pos) K := fun Z Y s Q X S q => by
  refine Call_Name0 (h Z Y s _ X S fun Z1 u v σ1 s1 x1 r1 h1 S1 => ?_)
  obtain ⟨rfl, h1⟩ := h1
  (first | cases r1 using Rv.intE | cases r1 using Rv.boolE | cases r1 using Rv.noneE | cases r1 using Rv.lstE | cases r1 using Rv.tupE | cases r1 using RVs.nilE | cases r1 using Rvs.nilE | cases r1)
  refine Calls.callWith_function (o := o) (fd := fd) (evalArgs_nil3 ⟨⟨S1.g.keep _ _ (S1.g.base _ _ (hk.bs.K _ _ ho)), hd⟩, h1 Z1 Y s1 Q X [] S1 .nil fun Z3 u v σ3 s3 x3 rv k S3 => q Z3 u v σ3 s3 (x1.trans x3) rv k S3⟩)
theorem ev_call_bi {x : Str} {id : String} {e : Expr} {es : List Expr}
    (h : Ev c ρ σ (.Name x p1) fun fv σ1 => fv = .raw (.builtin id) ∧ Evs c ρ σ1 pos (e :: es) fun as σ2 => Cl c ρ σ2 (.builtin id) as K) (he : starEach (e :: es) c.env = (false, eval e c.env) :: starEach es c.env)
    (hp : (backTo pos (starEach es c.env)).any (·.1) = false) :
    Ev c ρ σ (.Call (.Name x p1) (e :: es) [] pos) K := fun Z Y s Q X S q => by
  refine Call_Name rfl (h Z Y s _ X S fun Z1 u v σ1 s1 x1 r1 h1 S1 => ?_)
  obtain ⟨rfl, h1⟩ := h1
  (first | cases r1 using Rv.intE | cases r1 using Rv.boolE | cases r1 using Rv.noneE | cases r1 using Rv.lstE | cases r1 using Rv.tupE | cases r1 using RVs.nilE | cases r1 using Rvs.nilE | cases r1)
  rw [he]
  refine Calls.callWith_builtin (by show (false || (backTo pos (starEach es c.env)).any (·.1)) = false; rw [hp]; rfl) (Calls.evalArgs_plain ?_)
  have := h1 Z1 Y s1 (fun vs s' => wpAny (model c.prog c.w) c.A (call (.builtin id) vs) Q X s') X S1 fun Z2 us vs σ2 s2 x2 r2 h2 S2 => h2 Z2 Y s2 Q X us S2 r2 fun Z3 u v σ3 s3 x3 rv k S3 => q Z3 u v σ3 s3 ((x1.trans x2).trans x3) rv k S3
  rw [he] at this
  exact this
theorem ev_call_ty {x : Str} {T : String} {e : Expr} {es : List Expr}
    (h : Ev c ρ σ (.Name x p1) fun fv σ1 => fv = .raw (.type T) ∧ Evs c ρ σ1 pos (e :: es) fun as σ2 => Cl c ρ σ2 (.type T) as K) (he : starEach (e :: es) c.env = (false, eval e c.env) :: starEach es c.env)
    (hp : (backTo pos (starEach es c.env)).any (·.1) = false) :
    Ev c ρ σ (.Call (.Name x p1) (e :: es) [] pos) K := fun Z Y s Q X S q => by
  refine Call_Name rfl (h Z Y s _ X S fun Z1 u v σ1 s1 x1 r1 h1 S1 => ?_)
  obtain ⟨rfl, h1⟩ := h1
  (first | cases r1 using Rv.intE | cases r1 using Rv.boolE | cases r1 using Rv.noneE | cases r1 using Rv.lstE | cases r1 using Rv.tupE | cases r1 using RVs.nilE | cases r1 using Rvs.nilE | cases r1)
  exact callWith_type1 (h1 Z1 Y s1 (fun vs s' => wpAny (model c.prog c.w) c.A (call (.type T) vs) Q X s') X S1 fun Z2 us vs σ2 s2 x2 r2 h2 S2 => h2 Z2 Y s2 Q X us S2 r2 fun Z3 u v σ3 s3 x3 rv k S3 => q Z3 u v σ3 s3 ((x1.trans x2).trans x3) rv k S3) he hp
end
end Mine
namespace Mine
open PySem.SeqAt Classical

/-! ### held objects -/
noncomputable def holdY (H : List Addr) (Y : Zone) (s : Shared) : Zone := fun a => if a ∈ H then s.heap.get? a else Y a
section
variable {c : Cx} {Z Y : Zone} {ρ : Vars} {σ : Sto} {s : Shared} {H : List Addr} {r0 : Shared}
theorem G.hold (g : G r0 Z Y σ s) (h : ∀ a ∈ H, Z a = none ∧ σ a = none) : G r0 Z (holdY H Y s) σ s := by
  refine ⟨g.same, g.base, g.keep, fun a o e => ?_, fun a o e => ?_, fun a l e => ?_⟩
  · unfold holdY at e; split at e
    · exact e
    · exact g.keepY a o e
  · unfold holdY at e; split at e
    · rename_i q; exact (h a q).1
    · exact g.zy a o e
  · refine hide fun P_ hP_ => ?_
    obtain ⟨h1, h2, h3⟩ := g.lists a l e
    refine hP_ ?_
    clear hP_ P_
    refine ⟨h1, ?_, h3⟩
    unfold holdY; split
    · rename_i q; rw [(h a q).2] at e; cases e
    · exact h2
theorem G.unhold {Z' : Zone} {σ' : Sto} {s' : Shared} (g0 : G r0 Z Y σ s) (g : G r0 Z' (holdY H Y s) σ' s') : G r0 Z' Y σ' s' := by
  have yl : ∀ a o, Y a = some o → holdY H Y s a = some o := fun a o e => by
    unfold holdY; split
    · exact g0.keepY a o e
    · exact e
  refine ⟨g.same, g.base, g.keep, fun a o e => g.keepY a o (yl a o e), fun a o e => g.zy a o (yl a o e), fun a l e => ?_⟩
  refine hide fun P_ hP_ => ?_
  obtain ⟨h1, h2, h3⟩ := g.lists a l e
  refine hP_ ?_
  clear hP_ P_
  refine ⟨h1, ?_, h3⟩
  cases q : Y a with
  | none => rfl
  | some o => rw [yl a o q] at h2; cases h2
theorem G.held {Z' : Zone} {σ' : Sto} {s' : Shared} (g : G r0 Z' (holdY H Y s) σ' s') {a : Addr} {o : Obj} (ha : a ∈ H) (e : s.heap.get? a = some o) : Z' a = none ∧ σ' a = none ∧ s'.heap.get? a = some o := by
  have y : holdY H Y s a = some o := by unfold holdY; rw [if_pos ha]; exact e
  refine ⟨g.zy a o y, ?_, g.keepY a o y⟩
  cases q : σ' a with
  | none => rfl
  | some l => have := (g.lists a l q).2.1; rw [y] at this; cases this
/-- an address that the frame does not speak of -/
structure Apart (c : Cx) (Z Y : Zone) (σ : Sto) (a : Addr) : Prop where
  z : Z a = none
  y : Y a = none
  s : σ a = none
  o : a ∉ c.own
  c : ∀ x, c.env.cells.lookup x ≠ some a
theorem St.hold (S : St c Z Y ρ σ s) (h : ∀ a ∈ H, Apart c Z Y σ a) : St c Z (holdY H Y s) ρ σ s := by
  refine ⟨S.g.hold fun a ha => ⟨(h a ha).z, (h a ha).s⟩, S.ns, S.cell, fun x a e => ?_, fun a ha => ?_⟩
  · obtain ⟨h1, h2⟩ := S.cells x a e
    refine ⟨h1, h2.imp id fun ⟨o, ho⟩ => ⟨o, ?_⟩⟩
    unfold holdY; rw [if_neg]
    · exact ho
    · exact fun q => (h a q).c x e
  · refine hide fun P_ hP_ => ?_
    obtain ⟨h1, h2, h3, h4⟩ := S.own a ha
    refine hP_ ?_
    clear hP_ P_
    refine ⟨h1, ?_, h3, h4⟩
    unfold holdY; rw [if_neg]
    · exact h2
    · exact fun q => (h a q).o ha
theorem St.unhold {Z' : Zone} {σ' : Sto} {ρ' : Vars} {s' : Shared} (S0 : St c Z Y ρ σ s) (h : ∀ a ∈ H, Apart c Z Y σ a) (S : St c Z' (holdY H Y s) ρ' σ' s') : St c Z' Y ρ' σ' s' := by
  refine ⟨S0.g.unhold S.g, S.ns, S.cell, fun x a e => ?_, fun a ha => ?_⟩
  · obtain ⟨h1, h2⟩ := S.cells x a e
    refine ⟨h1, h2.imp id fun ⟨o, ho⟩ => ⟨o, ?_⟩⟩
    unfold holdY at ho; rw [if_neg (fun q => (h a q).c x e)] at ho
    exact ho
  · refine hide fun P_ hP_ => ?_
    obtain ⟨h1, h2, h3, h4⟩ := S.own a ha
    refine hP_ ?_
    clear hP_ P_
    refine ⟨h1, ?_, h3, h4⟩
    unfold holdY at h2; rw [if_neg (fun q => (h a q).o ha)] at h2
    exact h2
theorem Apart.after {Z' : Zone} {σ' : Sto} {ρ' : Vars} {s' : Shared} (h : ∀ a ∈ H, Apart c Z Y σ a) (S : St c Z' (holdY H Y s) ρ' σ' s') (ex : ∀ a ∈ H, ∃ o, s.heap.get? a = some o) : ∀ a ∈ H, Apart c Z' Y σ' a := fun a ha => by
  obtain ⟨o, e⟩ := ex a ha
  refine hide fun P_ hP_ => ?_
  obtain ⟨h1, h2, h3⟩ := S.g.held ha e
  refine hP_ ?_
  clear hP_ P_
  exact ⟨h1, (h a ha).y, h2, (h a ha).o, (h a ha).c⟩
/-- a heap that keeps everything but addresses apart -/
theorem St.keepBut (S : St c Z Y ρ σ s) (hk : c.Ok) {wr : List Addr} {h' : Heap} {tk : Nat} (hw : ∀ a ∈ wr, Apart c Z Y σ a) (k : ∀ b o, b ∉ wr → s.heap.get? b = some o → h'.get? b = some o) : St c Z Y ρ σ { s with heap := h', toks := tk } := by
  have kk : ∀ b o, (b ∉ wr) → s.heap.get? b = some o → h'.get? b = some o := k
  refine ⟨⟨by rw [S.g.same], S.g.base, fun a o e => k a o (fun q => ?_) (S.g.keep a o e), fun a o e => k a o (fun q => ?_) (S.g.keepY a o e), S.g.zy, fun a l e => ?_⟩, ?_, fun y v e hy => ?_, fun y a e => ?_, fun a ha => ?_⟩
  · rw [(hw a q).z] at e; cases e
  · rw [(hw a q).y] at e; cases e
  · refine hide fun P_ hP_ => ?_
    obtain ⟨h1, h2, vs, n, h3, h4⟩ := S.g.lists a l e
    refine hP_ ?_
    clear hP_ P_
    exact ⟨h1, h2, vs, n, k a _ (fun q => by rw [(hw a q).s] at e; cases e) h3, h4⟩
  · refine hide fun P_ hP_ => ?_
    obtain ⟨m, ⟨o, es, ep, h1, h2⟩, hm⟩ := S.ns
    refine hP_ ?_
    clear hP_ P_
    exact ⟨m, ⟨o, es, ep, k _ _ (fun q => (hw _ q).o hk.L) h1, h2⟩, hm⟩
  · refine hide fun P_ hP_ => ?_
    obtain ⟨a, u, e1, ⟨o, e2, e3⟩, e4⟩ := S.cell y v e hy
    refine hP_ ?_
    clear hP_ P_
    exact ⟨a, u, e1, ⟨o, k _ _ (fun q => (hw _ q).c _ e1) e2, e3⟩, e4⟩
  · refine hide fun P_ hP_ => ?_
    obtain ⟨⟨u, o, e2, e3⟩, e4⟩ := S.cells y a e
    refine hP_ ?_
    clear hP_ P_
    exact ⟨⟨u, o, k _ _ (fun q => (hw _ q).c _ e) e2, e3⟩, e4⟩
  · refine hide fun P_ hP_ => ?_
    obtain ⟨h1, h2, h3, o, h4⟩ := S.own a ha
    refine hP_ ?_
    clear hP_ P_
    exact ⟨h1, h2, h3, o, k _ _ (fun q => (hw _ q).o ha) h4⟩
theorem Apart.fresh (S : St c Z Y ρ σ s) {a : Addr} (h : s.heap.get? a = none) : Apart c Z Y σ a := by
  refine hide fun P_ hP_ => ?_
  obtain ⟨f1, f2, f3⟩ := S.g.fresh h
  refine hP_ ?_
  clear hP_ P_
  refine ⟨f1, f2, f3, fun q => ?_, fun x q => ?_⟩
  · obtain ⟨_, _, _, o, e⟩ := S.own a q; rw [h] at e; cases e
  · obtain ⟨⟨u, o, e, _⟩, _⟩ := S.cells x a q; rw [h] at e; cases e
theorem Apart.ext {a : Addr} (h : Apart c Z Y σ a) {Z' : Zone} {σ' : Sto} (hz : Z' a = none) (hs : σ' a = none) : Apart c Z' Y σ' a := ⟨hz, h.y, hs, h.o, h.c⟩
end

/-! ### statements -/
inductive Fl : Type where
  | next | brk | cont | ret (v : V)
inductive RF (Z : Zone) : Flow → Fl → Prop
  | next : RF Z .next .next
  | brk : RF Z .brk .brk
  | cont : RF Z .cont .cont
  | ret {u v} : RV Z u v → RF Z (.ret u) (.ret v)
def Sx (c : Cx) (ρ : Vars) (σ : Sto) (t : Sem Flow) (K : Fl → Vars → Sto → Prop) : Prop :=
  ∀ (Z Y : Zone) (s : Shared) (Q : Flow → Shared → Prop) (X : Value → Shared → Prop), St c Z Y ρ σ s →
    (∀ Z' f g ρ' σ' s', Ext Z Z' → RF Z' f g → K g ρ' σ' → St c Z' Y ρ' σ' s' → Q f s') → wpAny (model c.prog c.w) c.A t Q X s
def Ex1 (c : Cx) (ρ : Vars) (σ : Sto) (st : Stmt) (K : Fl → Vars → Sto → Prop) : Prop := Sx c ρ σ (exec st c.env) K
def Ex (c : Cx) (ρ : Vars) (σ : Sto) (ss : List Stmt) (K : Fl → Vars → Sto → Prop) : Prop := Sx c ρ σ (execs ss c.env) K
/-- a tree of unit: assignments -/
def Ux (c : Cx) (ρ : Vars) (σ : Sto) (t : Sem Unit) (K : Vars → Sto → Prop) : Prop :=
  ∀ (Z Y : Zone) (s : Shared) (Q : Unit → Shared → Prop) (X : Value → Shared → Prop), St c Z Y ρ σ s →
    (∀ Z' ρ' σ' s', Ext Z Z' → K ρ' σ' → St c Z' Y ρ' σ' s' → Q () s') → wpAny (model c.prog c.w) c.A t Q X s

/-- every cell that the frame names is its own -/
def Cx.Owner (c : Cx) : Prop := ∀ x a, c.env.cells.lookup x = some a → a ∈ c.own

section
variable {c : Cx} {Z Y : Zone} {ρ : Vars} {σ : Sto} {s : Shared} {K : Fl → Vars → Sto → Prop} {pos p1 p2 : Pos}
theorem Sx.mono {t : Sem Flow} {K' : Fl → Vars → Sto → Prop} (h : Sx c ρ σ t K) (hK : ∀ f ρ' σ', K f ρ' σ' → K' f ρ' σ') : Sx c ρ σ t K' := fun Z Y s Q X S q =>
  h Z Y s Q X S fun Z' f g ρ' σ' s' e r k S' => q Z' f g ρ' σ' s' e r (hK g ρ' σ' k) S'
theorem ex_nil (h : K .next ρ σ) : Ex c ρ σ [] K := fun Z Y s Q X S q => wpAny_execs_nil (q Z _ _ ρ σ s (Ext.refl Z) .next h S)
/-- what follows a statement -/
def KC (c : Cx) (rest : List Stmt) (K : Fl → Vars → Sto → Prop) : Fl → Vars → Sto → Prop := fun f ρ1 σ1 => match f with | .next => Ex c ρ1 σ1 rest K | f => K f ρ1 σ1
theorem kc_next {rest : List Stmt} (h : Ex c ρ σ rest K) : KC c rest K .next ρ σ := h
theorem kc_ret {rest : List Stmt} {v : V} (h : K (.ret v) ρ σ) : KC c rest K (.ret v) ρ σ := h
theorem kc_cont {rest : List Stmt} (h : K .cont ρ σ) : KC c rest K .cont ρ σ := h
theorem kc_brk {rest : List Stmt} (h : K .brk ρ σ) : KC c rest K .brk ρ σ := h
theorem ex_cons {st : Stmt} {rest : List Stmt} (h : Ex1 c ρ σ st (KC c rest K)) : Ex c ρ σ (st :: rest) K := fun Z Y s Q X S q =>
  wpAny_execs_cons (h Z Y s _ X S fun Z1 f g ρ1 σ1 s1 x1 r1 h1 S1 => by
    cases r1 with
    | next => exact h1 Z1 Y s1 Q X S1 fun Z2 f2 g2 ρ2 σ2 s2 x2 r2 k2 S2 => q Z2 f2 g2 ρ2 σ2 s2 (x1.trans x2) r2 k2 S2
    | brk => exact q Z1 _ _ ρ1 σ1 s1 x1 .brk h1 S1
    | cont => exact q Z1 _ _ ρ1 σ1 s1 x1 .cont h1 S1
    | ret hr => exact q Z1 _ _ ρ1 σ1 s1 x1 (.ret hr) h1 S1)
theorem storeOk (hk : c.Ok) : (c.env.scope.kind == .class || (c.env.scope.kind == .module && c.env.locals != c.env.globals)) = false := by rw [hk.fn]; rfl
/-- a store of a value at hand -/
theorem store_local (hk : c.Ok) {x : String} {u : Value} {v : V} {Q : Unit → Shared → Prop} {X : Value → Shared → Prop} (hl : c.env.kindOf (Str.ofString x) = some .local) (S : St c Z Y ρ σ s) (r : RV Z u v)
    (q : ∀ s', St c Z Y (ρ.set x v) σ s' → Q () s') : wpAny (model c.prog c.w) c.A (storeName c.env (Str.ofString x) u) Q X s := by
  refine hide fun P_ hP_ => ?_
  obtain ⟨m, hm, hm2⟩ := S.ns
  refine hP_ ?_
  clear hP_ P_
  exact wpAny_storeName_local hl hm (fun h' hn sb => q _ (S.storeLocal hk hl r hm hm2 hn sb)) (storeOk hk)
theorem store_cell (hk : c.Ok) (hw : c.Owner) {x : String} {u : Value} {v : V} {Q : Unit → Shared → Prop} {X : Value → Shared → Prop} (hl : c.env.kindOf (Str.ofString x) = some .cell) (ha : (c.env.cells.lookup (Str.ofString x)).isSome) (S : St c Z Y ρ σ s) (r : RV Z u v)
    (q : ∀ s', St c Z Y (ρ.set x v) σ s' → Q () s') : wpAny (model c.prog c.w) c.A (storeName c.env (Str.ofString x) u) Q X s := by
  obtain ⟨a, ha⟩ := Option.isSome_iff_exists.mp ha
  refine hide fun P_ hP_ => ?_
  obtain ⟨⟨u0, h0⟩, -⟩ := S.cells _ _ ha
  refine hP_ ?_
  clear hP_ P_
  exact wpAny_storeName_cell hk.fn hl ha h0 fun h' hn sb => q _ (S.storeCell hk hl ha (hw _ _ ha) r hn sb)
theorem ex_assign (hk : c.Ok) {x : String} {e : Expr} (h : Ev c ρ σ e fun v σ1 => K .next (ρ.set x v) σ1) (hl : c.env.kindOf (Str.ofString x) = some .local)
    (hs : swapsWith e (some (.Name (Str.ofString x) p1)) pos.line c.env = pure false) : Ex1 c ρ σ (.Assign [.Name (Str.ofString x) p1] e pos) K := fun Z Y s Q X S q =>
  wpAny_Assign_Name (h Z Y s _ X S fun Z1 u v σ1 s1 x1 r1 k1 S1 => store_local hk hl S1 r1 fun s' S' => q Z1 _ _ _ σ1 s' x1 .next k1 S') hs
theorem ex_assign_cell (hk : c.Ok) (hw : c.Owner) {x : String} {e : Expr} (h : Ev c ρ σ e fun v σ1 => K .next (ρ.set x v) σ1) (hl : c.env.kindOf (Str.ofString x) = some .cell) (ha : (c.env.cells.lookup (Str.ofString x)).isSome)
    (hs : swapsWith e (some (.Name (Str.ofString x) p1)) pos.line c.env = pure false) : Ex1 c ρ σ (.Assign [.Name (Str.ofString x) p1] e pos) K := fun Z Y s Q X S q =>
  wpAny_Assign_Name (h Z Y s _ X S fun Z1 u v σ1 s1 x1 r1 k1 S1 => store_cell hk hw hl ha S1 r1 fun s' S' => q Z1 _ _ _ σ1 s' x1 .next k1 S') hs
theorem ex_expr (hk : c.Ok) {e : Expr} (h : Ev c ρ σ e fun v σ1 => v = .d .none ∧ K .next ρ σ1) (hi : interactive c.env = false) (hs : swapsWith e none pos.line c.env = pure false) : Ex1 c ρ σ (.Expr e pos) K := fun Z Y s Q X S q =>
  wpAny_Expr (h Z Y s _ X S fun Z1 u v σ1 s1 x1 r1 k1 S1 => by
    obtain ⟨rfl, k1⟩ := k1
    (first | cases r1 using Rv.intE | cases r1 using Rv.boolE | cases r1 using Rv.noneE | cases r1 using Rv.lstE | cases r1 using Rv.tupE | cases r1 using RVs.nilE | cases r1 using Rvs.nilE | cases r1)
    exact q Z1 _ _ ρ σ1 s1 x1 .next k1 S1) hi hs
theorem ex_ret {e : Expr} (h : Ev c ρ σ e fun v σ1 => K (.ret v) ρ σ1) : Ex1 c ρ σ (.Return (some e) pos) K := fun Z Y s Q X S q =>
  wpAny_Return_some (h Z Y s _ X S fun Z1 u v σ1 s1 x1 r1 k1 S1 => q Z1 _ _ ρ σ1 s1 x1 (.ret r1) k1 S1)
theorem ex_cont (h : K .cont ρ σ) : Ex1 c ρ σ (.Continue pos) K := fun Z Y s Q X S q => wpAny_Continue (q Z _ _ ρ σ s (Ext.refl Z) .cont h S)
theorem ex_break (h : K .brk ρ σ) : Ex1 c ρ σ (.Break pos) K := fun Z Y s Q X S q => wpAny_Break (q Z _ _ ρ σ s (Ext.refl Z) .brk h S)
theorem ex_if {t : Expr} {a b : List Stmt} (h : Tst c ρ σ t fun r σ1 => if r = true then Ex c ρ σ1 a K else Ex c ρ σ1 b K) : Ex1 c ρ σ (.If t a b pos) K := fun Z Y s Q X S q =>
  wpAny_If (h Z Y s _ X S fun Z1 r σ1 s1 x1 k S1 => by
    cases r with
    | true =>
      simp only [if_true] at k ⊢
      exact k Z1 Y s1 Q X S1 fun Z2 f2 g2 ρ2 σ2 s2 x2 r2 k2 S2 => q Z2 f2 g2 ρ2 σ2 s2 (x1.trans x2) r2 k2 S2
    | false =>
      simp only [Bool.false_eq_true, if_false] at k ⊢
      exact k Z1 Y s1 Q X S1 fun Z2 f2 g2 ρ2 σ2 s2 x2 r2 k2 S2 => q Z2 f2 g2 ρ2 σ2 s2 (x1.trans x2) r2 k2 S2)
/-- xs[i] = v in a list of the store -/
theorem setItem_L {prog : Program} {w : World} {A : Around} {X : Value → Shared → Prop} {l : Addr} {items : Array Value} {n : Nat} {k : Int} {t : Tok} {v : Value} {Q : Unit → Shared → Prop} (hl : IsL s.heap l items n) (h0 : 0 ≤ k) (hfit : k < 2 ^ 63) (hn : k < items.size)
    (hQ : ∀ h' n', h'.get? l = some { cls := .type "list", dict := none, data := .seq (items.setIfInBounds k.toNat v) n', slots := #[] } → (∀ b, b ≠ l → ∀ o, s.heap.get? b = some o → h'.get? b = some o) → Q () { s with heap := h' }) :
    wpAny (model prog w) A (setItem (.ref l) (.int k t) v) Q X s := by
  have hl' : s.heap.IsList l items := hl.isList
  have ho := hl
  unfold setItem
  try with_reducible refine wpAny_holding ?_
  first | refine wpAny_bind (wpAny_pure ?_) | skip
  refine wpAny_bind (wpAny_sequenceKey hl'.typeIs (by decide) ?_)
  refine wpAny_bind (wpAny_callSpecial?_slot (name := Str.ofString "__setitem__") hl'.typeIs slot_list_setitem
    (wpAny_call_entry slot_list_setitem hl'.typeIs entry_list_setitem ?_ (args_list_setitem _ _ _)))
  show wpAny _ _ (Builtin.List.listSubscript? (.int k t) >>= _) _ _ s
  refine wpAny_bind (wpAny_listSubscript_int (fitsIndex_of h0 hfit) ?_)
  clear hfit
  obtain ⟨j, rfl⟩ := Int.eq_ofNat_of_zero_le h0
  have hj : j < items.size := by (first | lia | omega)
  have hx' : items[j]? = some items[j] := Array.getElem?_eq_getElem hj
  show wpAny _ _ ((seqItemAt l j >>= fun r => pure (r.map (j, ·))) >>= _) _ _ s
  refine wpAny_bind (wpAny_bind (wpAny_seqItemAt ho rfl (wpAny_pure ?_)))
  rw [hx']
  show wpAny _ _ (setSeqItemAt l j v >>= _) _ _ s
  obtain ⟨n', e1⟩ : ∃ n', (s.heap.update l (Obj.mapSeq fun xs => xs.setIfInBounds j v)).get? l = some { cls := .type "list", dict := none, data := .seq (items.setIfInBounds j v) n', slots := #[] } := ⟨_, get?_update_seq ho fun xs => xs.setIfInBounds j v⟩
  have fin := hQ _ n' e1 fun b hb o e => (Heap.get?_update_ne _ _ _ _ hb).trans e
  refine wpAny_bind (wpAny_setSeqItemAt ho rfl ?_)
  first
    | exact wpAny_bind (wpAny_pure (wpAny_pure ⟨.none, rfl, wpAny_pure fin⟩))
    | exact wpAny_pure ⟨.none, rfl, wpAny_pure fin⟩
theorem ex_setitem (hk : c.Ok) {o i e : Expr} (h : Ev c ρ σ e fun v σ1 => Ev c ρ σ1 o fun vo σ2 => Ev c ρ σ2 i fun vi σ3 => E4 fun a l k d => A6 (vo = .raw (.ref a)) (vi = .d (.int k)) (v = .d d) (σ3 a = some l) (0 ≤ k) (A3 (k < l.length) (l.length ≤ 1000000) (K .next ρ (σ3.set a (l.set k.toNat d)))))
    (hs : swapsWith e (some (.Subscript o i p1)) pos.line c.env = pure false) : Ex1 c ρ σ (.Assign [.Subscript o i p1] e pos) K := fun Z Y s Q X S q =>
  wpAny_Assign_Subscript (h Z Y s _ X S fun Z1 u v σ1 s1 x1 r1 h1 S1 => h1 Z1 Y s1 _ X S1 fun Z2 uo vo σ2 s2 x2 r2 h2 S2 => h2 Z2 Y s2 _ X S2 fun Z3 ui vi σ3 s3 x3 r3 h3 S3 => by
    refine hide fun P_ hP_ => ?_
    obtain ⟨a, l, k, d, rfl, rfl, rfl, ha, h0, hn, hz, kk⟩ := h3
    refine hP_ ?_
    clear hP_ P_
    (first | cases r2 using Rv.intE | cases r2 using Rv.boolE | cases r2 using Rv.noneE | cases r2 using Rv.lstE | cases r2 using Rv.tupE | cases r2 using RVs.nilE | cases r2 using Rvs.nilE | cases r2); cases r3
    refine hide fun P_ hP_ => ?_
    obtain ⟨vs, n, g1, g2⟩ := S3.g.isList ha
    refine hP_ ?_
    clear hP_ P_
    have hlen := g2.length
    refine setItem_L g1 h0 (by (first | lia | omega)) (by rw [List.size_toArray]; (first | lia | omega)) fun h' n' e1 e2 => ?_
    have e3 : vs.toArray.setIfInBounds k.toNat u = (vs.set k.toNat u).toArray := by simp
    rw [e3] at e1
    exact q Z3 _ _ ρ _ _ ((x1.trans x2).trans x3) .next kk (S3.upd hk (tk := s3.toks) ha e2 e1 (g2.set ((r1.mono x2).mono x3)))) hs
theorem ex_aug (hk : c.Ok) {x : String} {e : Expr} {i : Int} (hx : ρ x = some (.d (.int i))) (h : Ev c ρ σ e fun v σ1 => ∃ j, v = .d (.int j) ∧ K .next (ρ.set x (.d (.int (i + j)))) σ1) (hl : c.env.kindOf (Str.ofString x) = some .local) :
    Ex1 c ρ σ (.AugAssign (.Name (Str.ofString x) p1) .Add e pos) K := fun Z Y s Q X S q => by
  refine hide fun P_ hP_ => ?_
  obtain ⟨m, u0, h1, h2, h3⟩ := S.get hx hl
  refine hP_ ?_
  clear hP_ P_
  cases h3
  refine wpAny_AugAssign_Name (wpAny_loadName_local hk.fn hl h1 h2 (h Z Y s _ X S fun Z1 u v σ1 s1 x1 r1 k1 S1 => ?_))
  refine hide fun P_ hP_ => ?_
  obtain ⟨j, rfl, k1⟩ := k1
  refine hP_ ?_
  clear hP_ P_
  (first | cases r1 using Rv.intE | cases r1 using Rv.boolE | cases r1 using Rv.noneE | cases r1 using Rv.lstE | cases r1 using Rv.tupE | cases r1 using RVs.nilE | cases r1 using Rvs.nilE | cases r1)
  exact wpAny_iadd_int (store_local hk hl (S1.tok hk) RV.int fun s' S' => q Z1 _ _ _ σ1 s' x1 .next k1 S')
end
end Mine
namespace Mine
open PySem.SeqAt Classical

section
variable {c : Cx} {Z Y : Zone} {ρ : Vars} {σ : Sto} {s : Shared} {K : Fl → Vars → Sto → Prop} {pos p1 p2 : Pos}

/-- the end of a turn -/
def Turn (K : Fl → Vars → Sto → Prop) (J : Vars → Sto → Prop) : Fl → Vars → Sto → Prop := fun f ρ' σ' => match f with
  | .next | .cont => J ρ' σ'
  | .brk => K .next ρ' σ'
  | .ret v => K (.ret v) ρ' σ'

theorem ex_while {t : Expr} {body : List Stmt} (I : Nat → Vars → Sto → Prop)
    (turn : ∀ n ρ σ, I n ρ σ → ∀ KB : Fl → Vars → Sto → Prop, (∀ f ρ' σ', Turn K (fun ρ' σ' => ∃ m, m < n ∧ I m ρ' σ') f ρ' σ' → KB f ρ' σ') → Tst c ρ σ t fun b σ1 => if b = true then Ex c ρ σ1 body KB else K .next ρ σ1)
    (n : Nat) (h : I n ρ σ) : Ex1 c ρ σ (.While t body [] pos) K := fun Z Y s Q X S q => by
  refine wpAny_While (codeAny_whileLoop (fun n s' => E3 fun Z' ρ' σ' => A3 (Ext Z Z') (St c Z' Y ρ' σ' s') (I n ρ' σ')) ?_ n ⟨Z, ρ, σ, Ext.refl Z, S, h⟩)
  rintro k s1 q2_
  refine hide fun P_ hP_ => ?_
  obtain ⟨Z1, ρ1, σ1, x1, S1, h1⟩ := q2_
  refine hP_ ?_
  clear hP_ P_
  refine turn k ρ1 σ1 h1 _ (fun _ _ _ x => x) Z1 Y s1 _ _ S1 fun Z2 b σ2 s2 x2 k2 S2 => ?_
  cases b with
  | false =>
    simp only [Bool.false_eq_true, if_false] at k2 ⊢
    exact wpAny_execs_nil (q Z2 _ _ ρ1 σ2 s2 (x1.trans x2) .next k2 S2)
  | true =>
    simp only [if_true] at k2 ⊢
    refine k2 Z2 Y s2 _ _ S2 fun Z3 f g ρ3 σ3 s3 x3 r3 k3 S3 => ?_
    have e := (x1.trans x2).trans x3
    cases r3 with
    | next => obtain ⟨m, hm, hI⟩ := k3; exact ⟨m, hm, Z3, ρ3, σ3, e, S3, hI⟩
    | cont => obtain ⟨m, hm, hI⟩ := k3; exact ⟨m, hm, Z3, ρ3, σ3, e, S3, hI⟩
    | brk => exact q Z3 _ _ ρ3 σ3 s3 e .next k3 S3
    | ret hr => exact q Z3 _ _ ρ3 σ3 s3 e (.ret hr) k3 S3

/-- a name that may be stored -/
inductive Storable (c : Cx) (x : String) : Prop
  | loc : c.env.kindOf (Str.ofString x) = some .local → Storable c x
  | cell : c.Owner → c.env.kindOf (Str.ofString x) = some .cell → (c.env.cells.lookup (Str.ofString x)).isSome → Storable c x
theorem store_any (hk : c.Ok) {x : String} {u : Value} {v : V} {Q : Unit → Shared → Prop} {X : Value → Shared → Prop} (hx : Storable c x) (S : St c Z Y ρ σ s) (r : RV Z u v)
    (q : ∀ s', St c Z Y (ρ.set x v) σ s' → Q () s') : wpAny (model c.prog c.w) c.A (storeName c.env (Str.ofString x) u) Q X s := by
  cases hx with
  | loc h => exact store_local hk h S r q
  | cell h1 h2 h3 => exact store_cell hk h1 h2 h3 S r q

/-- where a loop's things come from: an iterator at an address of its own, n items, by the library's Walks -/
structure Src (c : Cx) (Z Y : Zone) (σ : Sto) (s : Shared) (I : Addr) (H : List Addr) (n : Nat) (P : Nat → Value → Prop) where
  fp : List Addr
  wr : List Addr
  Sw : Nat → Heap → Prop
  W : Walks c.prog c.w c.A I fp wr n P Sw
  zero : Sw 0 s.heap
  sub : ∀ b ∈ fp, b ∈ H ∨ ∃ o, Z b = some o
  wsub : ∀ b ∈ wr, b ∈ H
  live : ∀ i h, Sw i h → ∀ b ∈ wr, ∃ o, h.get? b = some o
  apart : ∀ b ∈ H, Apart c Z Y σ b
  ex : ∀ b ∈ H, ∃ o, s.heap.get? b = some o

theorem for_core (hk : c.Ok) {x : String} {px : Pos} {body : List Stmt} {it : Addr} {H : List Addr} {items : List D} {n : Nat} (hn : items.length = n) {P : Nat → Value → Prop} {Q : Flow → Shared → Prop} {X : Value → Shared → Prop} (hx : Storable c x) (S : St c Z Y ρ σ s) (src : Src c Z Y σ s it H n P)
    (hP : ∀ i v d, P i v → items[i]? = some d → Rv Z v d) (I : List D → Vars → Sto → Prop)
    (turn : ∀ pre d post ρ σ, items = pre ++ d :: post → I pre ρ σ → Ex c (ρ.set x (.d d)) σ body (Turn K (I (pre ++ [d])))) (done : ∀ ρ σ, I items ρ σ → K .next ρ σ) (h : I [] ρ σ)
    (q : ∀ Z' f g ρ' σ' s', Ext Z Z' → RF Z' f g → K g ρ' σ' → St c Z' Y ρ' σ' s' → Q f s') :
    codeAny (model c.prog c.w) c.A (.forLoop (.Name (Str.ofString x) px) (.ref it) body [] c.env) (fun r s' => match r with | .ok f => Q f s' | .error e => cameBackBy (model c.prog c.w) c.A c.env X e s') s := by
  refine codeAny_forLoop (fun k s' => E3 fun Z' ρ' σ' => E2 fun pre post => A6 (items = pre ++ post) (k = post.length) (Ext Z Z') (St c Z' Y ρ' σ' s') (I pre ρ' σ') (A3 (src.Sw pre.length s'.heap) (∀ b ∈ H, Apart c Z' Y σ' b) (∀ b ∈ H, ∃ o, s'.heap.get? b = some o))) ?_ items.length
    ⟨Z, ρ, σ, [], items, rfl, rfl, Ext.refl Z, S, h, src.zero, src.apart, src.ex⟩
  rintro k s1 q2_
  refine hide fun P_ hP_ => ?_
  obtain ⟨Z1, ρ1, σ1, pre, post, hi, hkk, x1, S1, h1, w1, a1, e1⟩ := q2_
  refine hP_ ?_
  clear hP_ P_
  cases post with
  | nil =>
    have hi' : items = pre := by rw [hi]; simp
    have hl : pre.length = n := by rw [← hi', hn]
    refine src.W.done s1 _ _ (hl ▸ w1) fun h' tk kk => ?_
    have S2 := S1.keepBut hk (tk := tk) (fun a ha => a1 a (src.wsub a ha)) kk
    exact wpAny_execs_nil (q Z1 _ _ ρ1 σ1 _ x1 .next (done ρ1 σ1 (hi' ▸ h1)) S2)
  | cons d post =>
    have hd : items[pre.length]? = some d := by rw [hi]; simp
    have hlt : pre.length < n := by rw [← hn, hi]; simp
    refine src.W.item pre.length s1 _ _ hlt w1 fun v h' tk pv w2 kk => ?_
    have S2 := S1.keepBut hk (tk := tk) (fun a ha => a1 a (src.wsub a ha)) kk
    have hv : Rv Z1 v d := (hP _ _ _ pv hd).mono x1
    have ex2 : ∀ b ∈ H, ∃ o, h'.get? b = some o := fun b hb => by
      by_cases hw : b ∈ src.wr
      · exact src.live _ _ w2 b hw
      · obtain ⟨o, ho⟩ := e1 b hb; exact ⟨o, kk b o hw ho⟩
    refine wpAny_assign_Name (store_any hk hx (S2.hold a1) (show RV Z1 v (.d d) from hv) fun s3 S3 => ?_)
    refine turn pre d post ρ1 σ1 hi h1 Z1 _ s3 _ _ S3 fun Z4 f g ρ4 σ4 s4 x4 r4 k4 S4 => ?_
    have x14 := x1.trans x4
    have S5 := S2.unhold a1 S4
    have a5 : ∀ b ∈ H, Apart c Z4 Y σ4 b := Apart.after a1 S4 ex2
    have e5 : ∀ b ∈ H, ∃ o, s4.heap.get? b = some o := fun b hb => by obtain ⟨o, ho⟩ := ex2 b hb; exact ⟨o, (S4.g.held hb ho).2.2⟩
    have w5 : src.Sw (pre ++ [d]).length s4.heap := by
      rw [List.length_append, List.length_singleton]
      refine src.W.frame _ _ _ w2 fun b hb o ho => ?_
      rcases src.sub b hb with hb | ⟨o', ho'⟩
      · exact (S4.g.held hb ho).2.2
      · have e1' := S2.g.keep b o' (x1 _ _ ho')
        have e2' : h'.get? b = some o' := e1'
        rw [e2'] at ho; injection ho with ho; subst ho
        exact S4.g.keep b _ (x14 _ _ ho')
    cases r4 with
    | next => exact ⟨post.length, by rw [hkk]; simp, Z4, ρ4, σ4, pre ++ [d], post, by rw [hi]; simp, rfl, x14, S5, k4, w5, a5, e5⟩
    | cont => exact ⟨post.length, by rw [hkk]; simp, Z4, ρ4, σ4, pre ++ [d], post, by rw [hi]; simp, rfl, x14, S5, k4, w5, a5, e5⟩
    | brk => exact q Z4 _ _ ρ4 σ4 s4 x14 .next k4 S5
    | ret hr => exact q Z4 _ _ ρ4 σ4 s4 x14 (.ret hr) k4 S5

/-- a list iterator, freshly made, over a frozen list -/
noncomputable def Src.list (hk : c.Ok) (S : St c Z Y ρ σ s) {a : Addr} {vs : List Value} {n : Nat} (e : Z a = some (lobj vs n)) :
    Src c Z Y σ { s with heap := s.heap.push { cls := .type "list_iterator", data := .fields #[.ref a, .int 0 0] } } s.heap.objs.size [s.heap.objs.size] vs.length (fun i v => vs.toArray[i]? = some v) where
  fp := [s.heap.objs.size, a]
  wr := [s.heap.objs.size]
  Sw := fun i h => h.IsListIter s.heap.objs.size a i ∧ h.IsList a vs.toArray
  W := by
    have := Walks.list (prog := c.prog) (w := c.w) (A := c.A) hk.hand s.heap.objs.size a (Nat.ne_of_lt (Heap.lt_size (S.g.keep _ _ e))) vs.toArray
    rw [List.size_toArray] at this
    exact this
  zero := ⟨⟨_, get_push rfl, rfl, rfl⟩, (isList_of S.g.keep e).push _⟩
  sub := fun b hb => by
    rcases List.mem_cons.mp hb with rfl | hb
    · exact .inl (.head _)
    · rcases List.mem_cons.mp hb with rfl | hb
      · exact .inr ⟨_, e⟩
      · cases hb
  wsub := fun b hb => hb
  live := fun i h st b hb => by
    rcases List.mem_cons.mp hb with rfl | hb
    · obtain ⟨⟨o, ho, _⟩, _⟩ := st; exact ⟨o, ho⟩
    · cases hb
  apart := fun b hb => by
    rcases List.mem_cons.mp hb with rfl | hb
    · exact Apart.fresh S (get_size _)
    · cases hb
  ex := fun b hb => by
    rcases List.mem_cons.mp hb with rfl | hb
    · exact ⟨_, get_push rfl⟩
    · cases hb

theorem ex_for (hk : c.Ok) {x : String} {px : Pos} {iter : Expr} {body : List Stmt} (hx : Storable c x)
    (h : Ev c ρ σ iter fun v σ1 => E2 fun (items : List D) (I : List D → Vars → Sto → Prop) => A4 (v = .d (.lst items)) (I [] ρ σ1) (∀ pre d post ρ σ, items = pre ++ d :: post → I pre ρ σ → ∀ KB : Fl → Vars → Sto → Prop, (∀ f ρ' σ', Turn K (I (pre ++ [d])) f ρ' σ' → KB f ρ' σ') → Ex c (ρ.set x (.d d)) σ body KB) (∀ ρ σ, I items ρ σ → K .next ρ σ))
    (hs : ∀ x, foldedSetIterable iter c.env x = pure x) : Ex1 c ρ σ (.For (.Name (Str.ofString x) px) iter body [] pos) K := fun Z Y s Q X S q => by
  refine wpAny_For (h Z Y s _ X S fun Z1 u v σ1 s1 x1 r1 h1 S1 => ?_) hs
  refine hide fun P_ hP_ => ?_
  obtain ⟨items, I, rfl, h0, turn, done⟩ := h1
  refine hP_ ?_
  clear hP_ P_
  cases r1 using Rv.lstE with
  | lst e r =>
    rename_i a vs n
    refine wpAny_pyIter_list (isList_of S1.g.keep e) ?_
    have S2 := S1.grow hk (tk := s1.toks) (h' := s1.heap.push { cls := .type "list_iterator", data := .fields #[.ref a, .int 0 0] }) fun b o e => Heap.get?_push_of_some _ e
    exact for_core hk r.length.symm hx S2 (Src.list hk S1 e) (fun i v d hv hd => by
      refine hide fun P_ hP_ => ?_
      obtain ⟨v', e1, e2⟩ := r.get hd
      refine hP_ ?_
      clear hP_ P_
      rw [List.getElem?_toArray] at hv
      rw [hv] at e1; cases e1; exact e2) I (fun pre d post ρ σ h1 h2 => turn pre d post ρ σ h1 h2 _ fun _ _ _ x => x) done h0 fun Z' f g ρ' σ' s' x2 => q Z' f g ρ' σ' s' (x1.trans x2)
end
end Mine
namespace Mine
open PySem.SeqAt Classical

noncomputable def Vars.setAll : Vars → List String → List V → Vars
  | ρ, x :: xs, v :: vs => (ρ.set x v).setAll xs vs
  | ρ, _, _ => ρ
inductive NamesOf : List Expr → List String → Prop
  | nil : NamesOf [] []
  | cons {x p es xs} : NamesOf es xs → NamesOf (.Name (Str.ofString x) p :: es) (x :: xs)
section
variable {c : Cx} {Z Y : Zone} {ρ : Vars} {σ : Sto} {s : Shared} {K : Fl → Vars → Sto → Prop} {pos p1 p2 : Pos}

theorem assignEach_names {es : List Expr} {xs : List String} (h : NamesOf es xs) : (assignEach es c.env).length = xs.length ∧ (assignEach es c.env).findIdx? (·.1) = none := by
  induction h with
  | nil => exact ⟨rfl, rfl⟩
  | @cons x p es xs _ ih =>
    have e : assignEach (.Name (Str.ofString x) p :: es) c.env = (false, assign (.Name (Str.ofString x) p) c.env) :: assignEach es c.env := rfl
    rw [e]
    refine ⟨by simp [ih.1], ?_⟩
    rw [List.findIdx?_cons]
    simp [ih.2]
theorem assign_names (hk : c.Ok) {es : List Expr} {xs : List String} (h : NamesOf es xs) {Q : Unit → Shared → Prop} {X : Value → Shared → Prop} : ∀ {us : List Value} {vs : List V} {ρ : Vars} {s : Shared}, (∀ x ∈ xs, Storable c x) → RVs Z us vs → xs.length = us.length → St c Z Y ρ σ s →
    (∀ s', St c Z Y (ρ.setAll xs vs) σ s' → Q () s') → wpAny (model c.prog c.w) c.A (assignInOrder ((assignEach es c.env).map (·.2)) us) Q X s := by
  induction h with
  | nil =>
    intro us vs ρ s _ r hl S q
    cases r with
    | nil => exact wpAny_pure (q s S)
    | cons _ _ => simp at hl
  | @cons x p es xs _ ih =>
    intro us vs ρ s hst r hl S q
    cases r with
    | nil => simp at hl
    | cons r1 r2 =>
      have e : assignEach (.Name (Str.ofString x) p :: es) c.env = (false, assign (.Name (Str.ofString x) p) c.env) :: assignEach es c.env := rfl
      rw [e, List.map_cons, assignInOrder]
      refine wpAny_bind (wpAny_holding (PySem.wpAny_assign_Name (store_any hk (hst x (.head _)) S r1 fun s1 S1 => ?_)))
      exact ih (fun y hy => hst y (.tail _ hy)) r2 (by simpa using hl) S1 q
/-- a tuple at hand goes to names -/
theorem unpack_names (hk : c.Ok) {es : List Expr} {xs : List String} {k : Nat} (h : NamesOf es xs) {Q : Unit → Shared → Prop} {X : Value → Shared → Prop} {us : List Value} {vs : List V} {t : Addr} (hst : ∀ x ∈ xs, Storable c x) (r : RVs Z us vs) (hl : xs.length = us.length)
    (S : St c Z Y ρ σ s) (ht : s.heap.IsTuple t us.toArray) (q : ∀ s', St c Z Y (ρ.setAll xs vs) σ s' → Q () s') : wpAny (model c.prog c.w) c.A (assign (.Tuple es k p1) c.env (.ref t)) Q X s := by
  obtain ⟨n1, n2⟩ := assignEach_names (c := c) h
  refine wpAny_assign_Tuple hk.hand ht (by rw [n1, List.size_toArray]; exact hl) n2 fun h' he => ?_
  exact assign_names hk h hst r hl (S.grow hk (tk := s.toks) fun b o e => he b o (Nat.ne_of_lt (Heap.lt_size e)) e) q
theorem Rvs.toV {Z : Zone} : ∀ {us : List Value} {ds : List D}, Rvs Z us ds → RVs Z us (ds.map V.d)
  | _, _, .nil => .nil
  | _, _, .cons h r => .cons h r.toV

/-- a, b = e where e gives a tuple of data -/
theorem ex_assign_tup (hk : c.Ok) {es : List Expr} {xs : List String} {k : Nat} {e : Expr} (hn : NamesOf es xs) (hst : ∀ x ∈ xs, Storable c x) (h : Ev c ρ σ e fun v σ1 => ∃ ds, A3 (v = .d (.tup ds)) (ds.length = xs.length) (K .next (ρ.setAll xs (ds.map V.d)) σ1))
    (hs : swapsWithSole [.Tuple es k p1] e pos.line c.env = pure false) (hw : swappedStores [.Tuple es k p1] e c.env = pure none) : Ex1 c ρ σ (.Assign [.Tuple es k p1] e pos) K := fun Z Y s Q X S q => by
  refine Assign_Tuple (h Z Y s _ X S fun Z1 u v σ1 s1 x1 r1 h1 S1 => ?_) hs hw
  refine hide fun P_ hP_ => ?_
  obtain ⟨ds, rfl, hl, k1⟩ := h1
  refine hP_ ?_
  clear hP_ P_
  cases r1 using Rv.tupE with
  | tup e r => exact unpack_names hk hn hst r.toV (by rw [r.length]; exact hl.symm) S1 (isTup_of S1.g.keep e) fun s' S' => q Z1 _ _ _ σ1 s' x1 .next k1 S'
/-- a, b, c, d = (e, f, g, h) -/
theorem ex_assign_tups (hk : c.Ok) {es fs : List Expr} {xs : List String} {k k' : Nat} (hn : NamesOf es xs) (hst : ∀ x ∈ xs, Storable c x) (h : Evs c ρ σ p2 fs fun vs σ1 => vs.length = xs.length ∧ vs.length ≤ 100 ∧ K .next (ρ.setAll xs vs) σ1)
    (hs : swapsWithSole [.Tuple es k p1] (.Tuple fs k' p2) pos.line c.env = pure false) (hw : swappedStores [.Tuple es k p1] (.Tuple fs k' p2) c.env = pure none) : Ex1 c ρ σ (.Assign [.Tuple es k p1] (.Tuple fs k' p2) pos) K := fun Z Y s Q X S q => by
  refine Assign_Tuple (wpAny_Tuple (h Z Y s _ X S fun Z1 us vs σ1 s1 x1 r1 h1 S1 => ?_)) hs hw
  refine hide fun P_ hP_ => ?_
  obtain ⟨hl, hz, k1⟩ := h1
  refine hP_ ?_
  clear hP_ P_
  have hlen := r1.length
  refine ⟨by rw [sizeLine_eq]; (first | lia | omega), ?_⟩
  have S2 := S1.grow hk (tk := s1.toks) (h' := s1.heap.push { cls := .type "tuple", data := .seq us.toArray }) fun b o e => Heap.get?_push_of_some _ e
  exact unpack_names hk hn hst r1 (by (first | lia | omega)) S2 ⟨_, get_push rfl, rfl, _, rfl⟩ fun s' S' => q Z1 _ _ _ σ1 s' x1 .next k1 S'
theorem rvs2 {Z : Zone} {us : List Value} {v w : V} (r : RVs Z us [v, w]) : E2 fun ua ub => A3 (us = [ua, ub]) (RV Z ua v) (RV Z ub w) := by
  cases r using RVs.consE with
  | cons ra r1 =>
    cases r1 using RVs.consE with
    | cons rb r1 => (first | cases r1 using Rv.intE | cases r1 using Rv.boolE | cases r1 using Rv.noneE | cases r1 using Rv.lstE | cases r1 using Rv.tupE | cases r1 using RVs.nilE | cases r1 using Rvs.nilE | cases r1); exact ⟨_, _, rfl, ra, rb⟩
/-- a, b = (e, f): the stores come swapped -/
theorem ex_assign_swap (hk : c.Ok) {es fs : List Expr} {x y : String} {k k' : Nat} (hx : Storable c x) (hy : Storable c y) (h : Evs c ρ σ p2 fs fun vs σ1 => E2 fun v w => vs = [v, w] ∧ K .next ((ρ.set y w).set x v) σ1)
    (hs : swapsWithSole [.Tuple es k p1] (.Tuple fs k' p2) pos.line c.env = pure false) (hw : swappedStores [.Tuple es k p1] (.Tuple fs k' p2) c.env = pure (some [Str.ofString x, Str.ofString y])) : Ex1 c ρ σ (.Assign [.Tuple es k p1] (.Tuple fs k' p2) pos) K := fun Z Y s Q X S q => by
  refine Assign_Tuple_swapped (wpAny_Tuple (h Z Y s _ X S fun Z1 us vs σ1 s1 x1 r1 h1 S1 => ?_)) hs hw
  refine hide fun P_ hP_ => ?_
  obtain ⟨v, w, rfl, k1⟩ := h1
  refine hP_ ?_
  clear hP_ P_
  refine hide fun P_ hP_ => ?_
  obtain ⟨ua, ub, rfl, ra, rb⟩ := rvs2 r1
  refine hP_ ?_
  clear hP_ P_
  refine ⟨by rw [sizeLine_eq]; simp, ?_⟩
  have S2 := S1.grow hk (tk := s1.toks) (h' := s1.heap.push { cls := .type "tuple", data := .seq [ua, ub].toArray }) fun b o e => Heap.get?_push_of_some _ e
  have ht : (s1.heap.push { cls := .type "tuple", data := .seq [ua, ub].toArray }).IsTuple s1.heap.objs.size #[ua, ub] := ⟨_, get_push rfl, rfl, _, rfl⟩
  have fin : ∀ h', Heap.ExtBut (s1.heap.push { cls := .type "tuple", data := .seq [ua, ub].toArray }).objs.size (s1.heap.push { cls := .type "tuple", data := .seq [ua, ub].toArray }) h' →
      wpAny (model c.prog c.w) c.A (assignInOrder (List.map (fun n => bindName c.env n) [Str.ofString x, Str.ofString y].reverse) (#[ua, ub] : Array Value).toList.reverse) (fun _ => Q .next) X { s1 with heap := h' } := by
    intro h' he
    have S3 := S2.grow hk (tk := s1.toks) (h' := h') fun b o e => he b o (Nat.ne_of_lt (Heap.lt_size e)) e
    rw [show [Str.ofString x, Str.ofString y].reverse = [Str.ofString y, Str.ofString x] from rfl, List.map_cons, List.map_cons, List.map_nil, show (#[ua, ub] : Array Value).toList.reverse = [ub, ua] from rfl]
    rw [assignInOrder]
    refine wpAny_bind (wpAny_holding (wpAny_bindName (store_any hk hy S3 rb fun s4 S4 => ?_)))
    rw [assignInOrder]
    refine wpAny_bind (wpAny_holding (wpAny_bindName (store_any hk hx S4 ra fun s5 S5 => ?_)))
    exact wpAny_pure (q Z1 _ _ _ σ1 s5 x1 .next k1 S5)
  exact wpAny_unpackItems_tuple (items := #[ua, ub]) hk.hand ht fin

/-! ### for with a tuple of names -/
/-- over a frozen list of tuples -/
theorem ex_forP (hk : c.Ok) {es : List Expr} {xs : List String} {k : Nat} {iter : Expr} {body : List Stmt} (hn : NamesOf es xs) (hst : ∀ x ∈ xs, Storable c x)
    (h : Ev c ρ σ iter fun v σ1 => E2 fun (items : List (List D)) (I : List (List D) → Vars → Sto → Prop) => A5 (v = .d (.lst (items.map D.tup))) (∀ d ∈ items, d.length = xs.length) (I [] ρ σ1) (∀ pre d post ρ σ, items = pre ++ d :: post → I pre ρ σ → ∀ KB : Fl → Vars → Sto → Prop, (∀ f ρ' σ', Turn K (I (pre ++ [d])) f ρ' σ' → KB f ρ' σ') → Ex c (ρ.setAll xs (d.map V.d)) σ body KB) (∀ ρ σ, I items ρ σ → K .next ρ σ))
    (hs : ∀ x, foldedSetIterable iter c.env x = pure x) : Ex1 c ρ σ (.For (.Tuple es k p1) iter body [] pos) K := fun Z Y s Q X S q => by
  refine wpAny_For (h Z Y s _ X S fun Z1 u v σ1 s1 x1 r1 h1 S1 => ?_) hs
  refine hide fun P_ hP_ => ?_
  obtain ⟨items, I, rfl, hlen, h0, turn, done⟩ := h1
  refine hP_ ?_
  clear hP_ P_
  cases r1 using Rv.lstE with
  | lst e r =>
    rename_i a vs n
    refine wpAny_pyIter_list (isList_of S1.g.keep e) ?_
    have S2 := S1.grow hk (tk := s1.toks) (h' := s1.heap.push { cls := .type "list_iterator", data := .fields #[.ref a, .int 0 0] }) fun b o e => Heap.get?_push_of_some _ e
    have src := Src.list hk S1 e
    have hvl : vs.length = items.length := by rw [r.length]; simp
    have hla : a ≠ s1.heap.objs.size := Nat.ne_of_lt (Heap.lt_size (S1.g.keep _ _ e))
    have hA : ∀ b ∈ [s1.heap.objs.size], Apart c Z1 Y σ1 b := mem1 (Apart.fresh S1 (get_size _))
    refine codeAny_forLoop_any (fun k s' => E3 fun Z' ρ' σ' => E2 fun pre post => A7 (items = pre ++ post) (k = post.length) (Ext Z1 Z') (St c Z' Y ρ' σ' s') (I pre ρ' σ') (s'.heap.IsListIter s1.heap.objs.size a pre.length) (∀ b ∈ [s1.heap.objs.size], Apart c Z' Y σ' b)) ?_ items.length
      ⟨Z1, ρ, σ1, [], items, rfl, rfl, Ext.refl Z1, S2, h0, ⟨_, get_push rfl, rfl, rfl⟩, hA⟩
    rintro kk s2 q2_
    refine hide fun P_ hP_ => ?_
    obtain ⟨Z2, ρ2, σ2, pre, post, hi, hkk, x2, S3, h3, w3, a3⟩ := q2_
    refine hP_ ?_
    clear hP_ P_
    have hl : s2.heap.IsList a vs.toArray := isList_of S3.g.keep (x2 _ _ e)
    cases post with
    | nil =>
      have hi' : items = pre := by rw [hi]; simp
      refine wpAny_pyNext_list_end hk.hand w3 hl (by rw [List.getElem?_toArray]; simp; rw [hvl, hi']; exact Nat.le_refl _) fun h' he => ?_
      have S4 := S3.keepBut hk (tk := s2.toks) (h' := h') a3 fun b o hb e => he b o (ne_mem1 hb) e
      exact wpAny_execs_nil (q Z2 _ _ ρ2 σ2 _ (x1.trans x2) .next (done ρ2 σ2 (hi' ▸ h3)) S4)
    | cons d post =>
      have hd : items[pre.length]? = some d := by rw [hi]; simp
      have hd2 : (items.map D.tup)[pre.length]? = some (.tup d) := by rw [List.getElem?_map, hd]; rfl
      refine hide fun P_ hP_ => ?_
      obtain ⟨v, hv, rv⟩ := r.get hd2
      refine hP_ ?_
      clear hP_ P_
      refine wpAny_pyNext_list_item w3 hl (x := v) (by rw [List.getElem?_toArray]; exact hv) fun h' w4 sb => ?_
      have S4 := S3.keepBut hk (tk := s2.toks) (h' := h') a3 fun b o hb e => (sb.2 b (ne_mem1 hb)).trans e
      have rv2 := rv.mono x2
      cases rv2 using Rv.tupE with
      | tup et rt =>
        refine wpAny_letOwnedTupleGo_listiter (s := { s2 with heap := h' }) w4 ?_
        refine unpack_names hk hn hst rt.toV (by rw [rt.length]; exact (hlen d (by rw [hi]; simp)).symm) (S4.hold a3) (isTup_of S4.g.keep et) fun s5 S5 => ?_
        refine turn pre d post ρ2 σ2 hi h3 _ (fun _ _ _ x => x) Z2 _ s5 _ _ S5 fun Z6 f g ρ6 σ6 s6 x6 r6 k6 S6 => ?_
        have ex2 : ∀ b ∈ [s1.heap.objs.size], ∃ o, h'.get? b = some o := mem1 (let ⟨o, ho, _⟩ := w4; ⟨o, ho⟩)
        have S7 := S4.unhold a3 S6
        have a7 := Apart.after a3 S6 ex2
        have w7 : s6.heap.IsListIter s1.heap.objs.size a (pre ++ [d]).length := by
          refine hide fun P_ hP_ => ?_
          obtain ⟨o, ho, hc, hd⟩ := w4
          refine hP_ ?_
          clear hP_ P_
          rw [List.length_append, List.length_singleton]
          exact ⟨o, (S6.g.held (.head _) ho).2.2, hc, hd⟩
        have xx := x2.trans x6
        cases r6 with
        | next => exact ⟨post.length, by rw [hkk]; simp, Z6, ρ6, σ6, pre ++ [d], post, by rw [hi]; simp, rfl, xx, S7, k6, w7, a7⟩
        | cont => exact ⟨post.length, by rw [hkk]; simp, Z6, ρ6, σ6, pre ++ [d], post, by rw [hi]; simp, rfl, xx, S7, k6, w7, a7⟩
        | brk => exact q Z6 _ _ ρ6 σ6 s6 (x1.trans xx) .next k6 S7
        | ret hr => exact q Z6 _ _ ρ6 σ6 s6 (x1.trans xx) (.ret hr) k6 S7

/-- over enumerate(frozen list) -/
theorem ex_forE {p3 : Pos} (hk : c.Ok) {es : List Expr} {x y : String} {k : Nat} {e0 : Expr} {body : List Stmt} (hn : NamesOf es [x, y]) (hx : Storable c x) (hy : Storable c y)
    (he : c.env.kindOf (Str.ofString "enumerate") = some .globalImplicit) (hne : nsIn c.K mainGlobals (Str.ofString "enumerate") = some none)
    (h : Ev c ρ σ e0 fun v σ1 => E2 fun (items : List D) (I : List D → Vars → Sto → Prop) => A4 (v = .d (.lst items)) (I [] ρ σ1) (∀ pre d post ρ σ, items = pre ++ d :: post → I pre ρ σ → ∀ KB : Fl → Vars → Sto → Prop, (∀ f ρ' σ', Turn K (I (pre ++ [d])) f ρ' σ' → KB f ρ' σ') → Ex c ((ρ.set x (.d (.int pre.length))).set y (.d d)) σ body KB) (∀ ρ σ, I items ρ σ → K .next ρ σ))
    (hs : starEach [e0] c.env = [(false, eval e0 c.env)]) : Ex1 c ρ σ (.For (.Tuple es k p1) (.Call (.Name (Str.ofString "enumerate") p2) [e0] [] p3) body [] pos) K := fun Z Y s Q X S q => by
  refine wpAny_For ?_ (fun _ => rfl)
  refine Call_Name rfl ?_
  refine ev_builtin (K := fun v σ' => v = .raw (.type "enumerate") ∧ σ = σ') hk hne (by first | rfl | decide) ⟨rfl, rfl⟩ he (by decide) (by decide) Z Y s _ X S fun Z0 u0 v0 σ0 s0 x0 r0 k0 S0 => ?_
  obtain ⟨rfl, rfl⟩ := k0
  cases r0
  refine callWith_type1 (wpAny_items_cons (h Z0 Y s0 _ X S0 fun Z1 u v σ1 s1 x1 r1 h1 S1 => wpAny_items_nil ?_) (by rw [hs]; rfl)) (by rw [hs]; rfl) rfl
  refine hide fun P_ hP_ => ?_
  obtain ⟨items, I, rfl, h0, turn, done⟩ := h1
  refine hP_ ?_
  clear hP_ P_
  cases r1 using Rv.lstE with
  | lst e r =>
    rename_i a vs n
    refine call_enumerate_list (isList_of S1.g.keep e) fun h' e1 e2 hsz kk => ?_
    refine wpAny_pyIter_enum (s := { s1 with heap := h' }) e1 ?_
    have S2 := S1.grow hk (tk := s1.toks) kk
    have la : a < s1.heap.objs.size := Heap.lt_size (S1.g.keep _ _ e)
    have W := WalksT.enumerate (prog := c.prog) (w := c.w) (A := c.A) hk.hand (s1.heap.objs.size + 1) s1.heap.objs.size a (by simp) (Nat.ne_of_lt (Nat.lt_succ_of_lt la)) (Nat.ne_of_lt la) vs.toArray
    have hH : ∀ b ∈ [s1.heap.objs.size + 1, s1.heap.objs.size], s1.heap.get? b = none := mem2 (Heap.get?_none_of_le (Nat.le_succ _)) (get_size _)
    have hA : ∀ b ∈ [s1.heap.objs.size + 1, s1.heap.objs.size], Apart c Z1 Y σ1 b := fun b hb => Apart.fresh S1 (hH b hb)
    have live : ∀ (i : Nat) (g : Heap), (∃ old, IsEnum g (s1.heap.objs.size + 1) s1.heap.objs.size (i : Int) old) ∧ g.IsListIter s1.heap.objs.size a i ∧ g.IsList a vs.toArray → ∀ b ∈ [s1.heap.objs.size + 1, s1.heap.objs.size], ∃ o, g.get? b = some o := fun i g st b hb => by
      refine hide fun P_ hP_ => ?_
      obtain ⟨⟨old, h1⟩, ⟨o, h2, _⟩, _⟩ := st
      refine hP_ ?_
      clear hP_ P_
      rcases List.mem_cons.mp hb with rfl | hb
      · exact ⟨_, h1⟩
      · rcases List.mem_cons.mp hb with rfl | hb
        · exact ⟨_, h2⟩
        · cases hb
    have hvl : vs.length = items.length := r.length
    refine codeAny_forLoop_any (fun k s' => E3 fun Z' ρ' σ' => E2 fun pre post => A7 (items = pre ++ post) (k = post.length) (Ext Z1 Z') (St c Z' Y ρ' σ' s') (I pre ρ' σ') ((∃ old, IsEnum s'.heap (s1.heap.objs.size + 1) s1.heap.objs.size pre.length old) ∧ s'.heap.IsListIter s1.heap.objs.size a pre.length ∧ s'.heap.IsList a vs.toArray) (∀ b ∈ [s1.heap.objs.size + 1, s1.heap.objs.size], Apart c Z' Y σ' b)) ?_ items.length
      ⟨Z1, ρ, σ1, [], items, rfl, rfl, Ext.refl Z1, S2, h0, ⟨⟨_, e1⟩, e2, isList_of S2.g.keep e⟩, hA⟩
    rintro kk s2 q2_
    refine hide fun P_ hP_ => ?_
    obtain ⟨Z2, ρ2, σ2, pre, post, hi, hkk, x2, S3, h3, w3, a3⟩ := q2_
    refine hP_ ?_
    clear hP_ P_
    cases post with
    | nil =>
      have hi' : items = pre := by rw [hi]; simp
      have hl : pre.length = vs.toArray.size := by rw [← hi', List.size_toArray, hvl]
      refine W.done s2 _ _ (by rw [← hl]; exact w3) fun h' tk kk => ?_
      have S4 := S3.keepBut hk (tk := tk) (h' := h') a3 kk
      exact wpAny_execs_nil (q Z2 _ _ ρ2 σ2 _ ((x0.trans x1).trans x2) .next (done ρ2 σ2 (hi' ▸ h3)) S4)
    | cons d post =>
      have hd : items[pre.length]? = some d := by rw [hi]; simp
      have hlt : pre.length < vs.toArray.size := by rw [List.size_toArray, hvl, hi]; simp
      refine W.item pre.length s2 _ _ hlt w3 fun T vals h' tk pv hT ht hm kk => ?_
      refine hide fun P_ hP_ => ?_
      obtain ⟨t, vx, hvx, rfl⟩ := pv
      refine hP_ ?_
      clear hP_ P_
      refine hide fun P_ hP_ => ?_
      obtain ⟨v', e3, rv⟩ := r.get hd
      refine hP_ ?_
      clear hP_ P_
      rw [List.getElem?_toArray] at hvx
      rw [hvx] at e3; cases e3
      have S4 := S3.keepBut hk (tk := tk) (h' := h') a3 kk
      refine W.go _ _ _ _ _ _ _ _ hm fun h'' st2 kk2 => ?_
      have S5 := S4.keepBut hk (tk := tk) (h' := h'') a3 kk2
      have hTw := W.apart _ _ _ hm
      have ht2 : h''.IsTuple T #[.int pre.length t, vx] := by
        refine hide fun P_ hP_ => ?_
        obtain ⟨o, ho, r⟩ := ht
        refine hP_ ?_
        clear hP_ P_
        exact ⟨o, kk2 _ _ hTw ho, r⟩
      refine unpack_names hk hn (us := [.int pre.length t, vx]) (vs := [.d (.int pre.length), .d d]) (fun z hz => ?_) (.cons RV.int (.cons (show RV Z2 vx (.d d) from rv.mono x2) .nil)) rfl (S5.hold a3) ht2 fun s5 S6 => ?_
      · rcases List.mem_cons.mp hz with rfl | hz
        · exact hx
        · rcases List.mem_cons.mp hz with rfl | hz
          · exact hy
          · cases hz
      refine turn pre d post ρ2 σ2 hi h3 _ (fun _ _ _ x => x) Z2 _ s5 _ _ S6 fun Z6 f g ρ6 σ6 s6 x6 r6 k6 S7 => ?_
      have ex2 := live _ _ st2
      have S8 := S5.unhold a3 S7
      have a8 := Apart.after a3 S7 ex2
      have w8 : (∃ old, IsEnum s6.heap (s1.heap.objs.size + 1) s1.heap.objs.size (pre ++ [d]).length old) ∧ s6.heap.IsListIter s1.heap.objs.size a (pre ++ [d]).length ∧ s6.heap.IsList a vs.toArray := by
        rw [List.length_append, List.length_singleton]
        refine hide fun P_ hP_ => ?_
        obtain ⟨⟨old, w1⟩, ⟨o2, w2, w2'⟩, w3'⟩ := st2
        refine hP_ ?_
        clear hP_ P_
        exact ⟨⟨old, (S7.g.held (.head _) w1).2.2⟩, ⟨o2, (S7.g.held (.tail _ (.head _)) w2).2.2, w2'⟩, isList_of S8.g.keep ((x2.trans x6) _ _ e)⟩
      have xx := x2.trans x6
      cases r6 with
      | next => exact ⟨post.length, by rw [hkk]; simp, Z6, ρ6, σ6, pre ++ [d], post, by rw [hi]; simp, rfl, xx, S8, k6, w8, a8⟩
      | cont => exact ⟨post.length, by rw [hkk]; simp, Z6, ρ6, σ6, pre ++ [d], post, by rw [hi]; simp, rfl, xx, S8, k6, w8, a8⟩
      | brk => exact q Z6 _ _ ρ6 σ6 s6 ((x0.trans x1).trans xx) .next k6 S8
      | ret hr => exact q Z6 _ _ ρ6 σ6 s6 ((x0.trans x1).trans xx) (.ret hr) k6 S8
end
end Mine
namespace Mine
open PySem.SeqAt Classical

/-- the frame of a comprehension -/
def cc (c : Cx) (scope : Scope) (cl : List (Str × Addr)) (C : Addr) : Cx := { c with env := compEnvC scope cl C c.env, own := [C] }
/-- the names a comprehension sees of the frame around it -/
def seen (cl : List (Str × Addr)) (ρ : Vars) : Vars := fun y => if (cl.lookup (Str.ofString y)).isSome then ρ y else none
/-- what a look shows of the comprehension's closure -/
structure Clos (c : Cx) (scope : Scope) (cl : List (Str × Addr)) : Prop where
  clos : closureFor scope c.env = pure cl
  sub : ∀ y a, cl.lookup y = some a → c.env.cells.lookup y = some a
  kid : ∀ y, (cl.lookup y).isSome → scope.names.lookup y ≠ some .local
  par : ∀ y, (cl.lookup y).isSome → c.env.kindOf y ≠ some .local
  cell : ∀ y ∈ scope.names, y.2 ≠ .cell
  kind : scope.kind = .function
  names : ∀ y ∈ scope.names, y.2 = .local → scope.names.lookup y.1 = some .local

def Ifs (c : Cx) (ρ : Vars) (σ : Sto) (ifs : List Expr) (K : Bool → Sto → Prop) : Prop :=
  Ts c ρ σ (forIn ifs true fun e r => if r = true then do let ok ← isTrue e c.env (eval e c.env); pure (ForInStep.yield ok) else pure (ForInStep.yield r)) K

section
variable {c : Cx} {Z Y : Zone} {ρ : Vars} {σ : Sto} {s : Shared} {K : V → Sto → Prop} {pos p1 p2 : Pos}

theorem ifs_nil {K : Bool → Sto → Prop} (h : K true σ) : Ifs c ρ σ [] K := fun Z Y s Q X S q => by
  rw [List.forIn_nil]; exact wpAny_pure (q Z true σ s (Ext.refl Z) h S)
theorem ifs_one {e : Expr} {K : Bool → Sto → Prop} (h : Tst c ρ σ e K) : Ifs c ρ σ [e] K := fun Z Y s Q X S q => by
  rw [List.forIn_cons]
  refine wpAny_bind ?_
  simp only [if_true]
  refine wpAny_bind (h Z Y s _ X S fun Z1 b σ1 s1 x1 k1 S1 => wpAny_pure ?_)
  dsimp only
  rw [List.forIn_nil]
  exact wpAny_pure (q Z1 b σ1 s1 x1 k1 S1)

theorem kid_kind {scope : Scope} {cl : List (Str × Addr)} {C : Addr} {env : Env} {y : Str} (h : scope.names.lookup y ≠ some .local) : (compEnvC scope cl C env).kindOf y ≠ some .local := by
  show (scope.names.map fun (n, k) => if (k == NameKind.free && env.scope.kind == .function && env.kindOf n == some .cell) then (n, NameKind.cell) else (n, k)).lookup y ≠ some .local
  generalize scope.names = l at h
  induction l with
  | nil => simp
  | cons p r ih =>
    obtain ⟨n, k⟩ := p
    show List.lookup y ((if (k == NameKind.free && env.scope.kind == .function && env.kindOf n == some .cell) = true then (n, NameKind.cell) else (n, k)) :: _) ≠ _
    cases hx : y == n with
    | true =>
      simp only [List.lookup_cons, hx] at h
      by_cases hc : (k == NameKind.free && env.scope.kind == .function && env.kindOf n == some .cell) = true
      · rw [if_pos hc]; simp only [List.lookup_cons, hx]; simp
      · rw [if_neg hc]; simp only [List.lookup_cons, hx]; exact h
    | false =>
      simp only [List.lookup_cons, hx] at h
      by_cases hc : (k == NameKind.free && env.scope.kind == .function && env.kindOf n == some .cell) = true
      · rw [if_pos hc]; simp only [List.lookup_cons, hx]; exact ih h
      · rw [if_neg hc]; simp only [List.lookup_cons, hx]; exact ih h

theorem cc_ok (hk : c.Ok) {scope : Scope} {cl : List (Str × Addr)} {C : Addr} (hc : Clos c scope cl) (hC : ∀ x, c.env.cells.lookup x ≠ some C) : (cc c scope cl C).Ok where
  bs := hk.bs
  glob := hk.glob
  blt := hk.blt
  hand := hk.hand
  L := .head _
  fn := hc.kind
  inj := fun x y a h1 h2 => hk.inj x y a (hc.sub x a h1) (hc.sub y a h2)
  notL := fun x a h q => hC x (by rw [hc.sub x a h, q]; rfl)

theorem Clos.kidLocal {scope : Scope} {cl : List (Str × Addr)} {C : Addr} {x : String} (hx : scope.names.lookup (Str.ofString x) = some .local) : (cc c scope cl C).env.kindOf (Str.ofString x) = some .local := lookup_relabel_local hx

/-- into the comprehension's frame -/
theorem St.kid (S : St c Z Y ρ σ s) (hk : c.Ok) {scope : Scope} {cl : List (Str × Addr)} {C : Addr} (hc : Clos c scope cl) {H : List Addr} {x : String} {u : Value} {v : V} {m : Str → Option Value} (hx : scope.names.lookup (Str.ofString x) = some .local)
    (hns : s.heap.Ns C m) (hm : m (Str.ofString x) = some u) (r : RV Z u v) (hA : Apart c Z Y σ C) (hH : ∀ a ∈ H, Apart c Z Y σ a) (hCH : C ∉ H) :
    St (cc c scope cl C) Z (holdY H (St.lend c Y s) s) ((seen cl ρ).set x v) σ s := by
  have lendC : St.lend c Y s C = none := by
    unfold St.lend
    rw [if_neg (by rintro (h | ⟨x, h⟩); exact hA.o h; exact hA.c x h)]
    exact hA.y
  refine ⟨S.lendG.hold fun a ha => ⟨(hH a ha).z, (hH a ha).s⟩, ⟨m, hns, fun y w e hy => ?_⟩, fun y w e hy => ?_, fun y a e => ?_, fun a ha => ?_⟩
  · by_cases q : y = x
    · subst q
      simp only [Vars.set_self, Option.some.injEq] at e
      subst e
      exact ⟨u, hm, r⟩
    · rw [Vars.set_ne _ _ q] at e
      unfold seen at e
      split at e
      · rename_i h; exact absurd hy (kid_kind (hc.kid _ h))
      · cases e
  · have q : y ≠ x := by rintro rfl; exact hy (Clos.kidLocal hx)
    rw [Vars.set_ne _ _ q] at e
    unfold seen at e
    split at e
    · rename_i h
      obtain ⟨a, ha⟩ := Option.isSome_iff_exists.mp h
      refine hide fun P_ hP_ => ?_
      obtain ⟨a', u', e1, e2, e3⟩ := S.cell y w e (hc.par _ h)
      refine hP_ ?_
      clear hP_ P_
      rw [hc.sub _ _ ha] at e1
      cases e1
      exact ⟨a, u', ha, e2, e3⟩
    · cases e
  · have e1 := hc.sub _ _ e
    obtain ⟨h1, h2⟩ := S.cells y a e1
    refine ⟨h1, .inr ?_⟩
    refine hide fun P_ hP_ => ?_
    obtain ⟨u', o, h3, h4⟩ := h1
    refine hP_ ?_
    clear hP_ P_
    refine ⟨o, ?_⟩
    unfold holdY
    split
    · exact h3
    · unfold St.lend; rw [if_pos (.inr ⟨y, e1⟩)]; exact h3
  · rcases List.mem_cons.mp ha with rfl | ha
    · refine ⟨hA.z, ?_, hA.s, ?_⟩
      · unfold holdY; rw [if_neg hCH]; exact lendC
      · obtain ⟨o, _, _, h, _⟩ := hns; exact ⟨o, h⟩
    · cases ha
/-- out of it -/
theorem St.unkid (S : St c Z Y ρ σ s) (hk : c.Ok) {scope : Scope} {cl : List (Str × Addr)} {C : Addr} {H : List Addr} {Z' : Zone} {σ' : Sto} {ρ' : Vars} {s' : Shared} (x : Ext Z Z') (hA : Apart c Z Y σ C) (hH : ∀ a ∈ H, Apart c Z Y σ a) (ex : ∀ a ∈ H, ∃ o, s.heap.get? a = some o)
    (S' : St (cc c scope cl C) Z' (holdY H (St.lend c Y s) s) ρ' σ' s') :
    St c Z' Y ρ σ' s' ∧ Apart c Z' Y σ' C ∧ (∀ a ∈ H, Apart c Z' Y σ' a) ∧ (∀ a ∈ H, ∀ o, s.heap.get? a = some o → s'.heap.get? a = some o) ∧ ∃ m, s'.heap.Ns C m := by
  have g : G c.r0 Z' (St.lend c Y s) σ' s' := S.lendG.unhold S'.g
  refine ⟨S.back hk x g, ?_, fun a ha => ?_, fun a ha o e => (S'.g.held ha e).2.2, ?_⟩
  · refine hide fun P_ hP_ => ?_
    obtain ⟨h1, -, h3, -⟩ := S'.own C (.head _)
    refine hP_ ?_
    clear hP_ P_
    exact ⟨h1, hA.y, h3, hA.o, hA.c⟩
  · obtain ⟨o, e⟩ := ex a ha
    refine hide fun P_ hP_ => ?_
    obtain ⟨h1, h2, -⟩ := S'.g.held ha e
    refine hP_ ?_
    clear hP_ P_
    exact ⟨h1, (hH a ha).y, h2, (hH a ha).o, (hH a ha).c⟩
  · obtain ⟨m, h, _⟩ := S'.ns; exact ⟨m, h⟩

theorem lobj_append {l : Addr} {vs : List Value} {n : Nat} {v : Value} {prog : Program} {w : World} {A : Around} {X : Value → Shared → Prop} {Q : Value → Shared → Prop} (hl : s.heap.get? l = some (lobj vs n)) (hz : vs.length ≤ 1000000)
    (q : ∀ h' n', h'.get? l = some (lobj (vs ++ [v]) n') → Heap.SameBut l s.heap h' → Q .none { s with heap := h' }) : wpAny (model prog w) A (call (.builtin "list.append") [.ref l, v]) Q X s := by
  refine call_meets slot_list_append ⟨_, hl, rfl⟩ entry_list_append (args_list_append _ _) (list_append l vs.toArray n v (by rw [sizeLine_eq, List.size_toArray]; (first | lia | omega))) ⟨hl, ?_⟩
  obtain ⟨n', e⟩ : ∃ n', (s.heap.update l (Obj.mapSeq fun xs => xs.push v)).get? l = some (lobj (vs ++ [v]) n') := ⟨_, by have := get?_update_seq hl fun xs => xs.push v; simpa using this⟩
  exact q _ n' e (Heap.SameBut.update ..)

theorem comp_loop (hk : c.Ok) {elt iter : Expr} {x : String} {px : Pos} {ifs : List Expr} {scope : Scope} {cl : List (Str × Addr)} {C D0 I0 a : Addr} {items : List D} {vs : List Value} {n : Nat} {R : Result → Shared → Prop}
    (hc : Clos c scope cl) (hx : scope.names.lookup (Str.ofString x) = some .local) (S : St c Z Y ρ σ s) (ha : Z a = some (lobj vs n)) (r : Rvs Z vs items) (hz : items.length ≤ 1000000)
    (hI : s.heap.IsListIter I0 a 0) (hD : s.heap.get? D0 = some (lobj [] 0)) (hC : ∃ m, s.heap.Ns C m) (aI : Apart c Z Y σ I0) (aD : Apart c Z Y σ D0) (aC : Apart c Z Y σ C) (nDI : D0 ≠ I0) (nCI : C ≠ I0) (nCD : C ≠ D0)
    (I : List D → List D → Sto → Prop) (h0 : I [] [] σ)
    (turn : ∀ pre d post acc σ, items = pre ++ d :: post → I pre acc σ → acc.length ≤ pre.length → Ifs (cc c scope cl C) ((seen cl ρ).set x (.d d)) σ ifs fun b σ1 => if b = true then Ev (cc c scope cl C) ((seen cl ρ).set x (.d d)) σ1 elt fun v σ2 => ∃ e, v = .d e ∧ I (pre ++ [d]) (acc ++ [e]) σ2 else I (pre ++ [d]) acc σ1)
    (fin : ∀ Z' σ' s' ws m acc, Ext Z Z' → St c Z' Y ρ σ' s' → s'.heap.get? D0 = some (lobj ws m) → Rvs Z' ws acc → Apart c Z' Y σ' D0 → (∃ m, s'.heap.Ns C m) → Apart c Z' Y σ' C → acc.length ≤ items.length → I items acc σ' → R (.ok .next) s') :
    codeAny (model c.prog c.w) c.A (.compLoop (.ListComp elt [⟨.Name (Str.ofString x) px, iter, ifs, 0⟩] scope pos) 0 (.ref I0) (.ref D0) (compEnvC scope cl C c.env)) R s := by
  refine codeAny_compLoop_tests (fun k s' => E4 fun Z' σ' pre post => E3 fun acc ws m => A7 (items = pre ++ post) (k = post.length) (Ext Z Z') (St c Z' Y ρ σ' s') (I pre acc σ') (acc.length ≤ pre.length) (A7 (s'.heap.IsListIter I0 a pre.length) (s'.heap.get? D0 = some (lobj ws m)) (Rvs Z' ws acc) (∃ m, s'.heap.Ns C m) (Apart c Z' Y σ' I0) (Apart c Z' Y σ' D0) (Apart c Z' Y σ' C))) ?_ items.length
    ⟨Z, σ, [], items, [], [], 0, rfl, rfl, Ext.refl Z, S, h0, Nat.le_refl _, hI, hD, .nil, hC, aI, aD, aC⟩
  rintro k s1 q2_
  refine hide fun P_ hP_ => ?_
  obtain ⟨Z1, σ1, pre, post, acc, ws, m, hi, hkk, x1, S1, h1, hal, wI, wD, rA, wC, bI, bD, bC⟩ := q2_
  refine hP_ ?_
  clear hP_ P_
  have hl : s1.heap.IsList a vs.toArray := isList_of S1.g.keep (x1 _ _ ha)
  have hvl : vs.length = items.length := r.length
  cases post with
  | nil =>
    have hi' : items = pre := by rw [hi]; simp
    refine wpAny_pyNext_list_end hk.hand wI hl (by rw [List.getElem?_toArray]; simp; rw [hvl, hi']; exact Nat.le_refl _) fun h' he => ?_
    have S2 := S1.keepBut hk (tk := s1.toks) (h' := h') (wr := [I0]) (mem1 bI) fun b o hb e => he b o (ne_mem1 hb) e
    refine fin Z1 σ1 _ ws m acc x1 S2 (he _ _ nDI wD) rA bD ?_ bC (by rw [hi']; exact hal) (hi' ▸ h1)
    refine hide fun P_ hP_ => ?_
    obtain ⟨m2, o, es, ep, e, rr⟩ := wC
    refine hP_ ?_
    clear hP_ P_
    exact ⟨m2, o, es, ep, he _ _ nCI e, rr⟩
  | cons d post =>
    have hd : items[pre.length]? = some d := by rw [hi]; simp
    refine hide fun P_ hP_ => ?_
    obtain ⟨v, hv, rv⟩ := r.get hd
    refine hP_ ?_
    clear hP_ P_
    refine wpAny_pyNext_list_item wI hl (x := v) (by rw [List.getElem?_toArray]; exact hv) fun h' w4 sb => ?_
    have S2 := S1.keepBut hk (tk := s1.toks) (h' := h') (wr := [I0]) (mem1 bI) fun b o hb e => (sb.2 b (ne_mem1 hb)).trans e
    obtain ⟨mC, hnC⟩ := wC
    have hnC2 : h'.Ns C mC := hnC.sameBut sb nCI
    have hD2 : h'.get? D0 = some (lobj ws m) := (sb.2 _ nDI).trans wD
    refine wpAny_assign_Name (wpAny_storeName_local (env := compEnvC scope cl C c.env) (m := mC) (Clos.kidLocal (c := c) (cl := cl) (C := C) hx) hnC2 (fun h3 hn3 sb3 => ?_) (by simp [compEnvC, relabel, hc.kind]))
    have S3 : St c Z1 Y ρ σ1 { s1 with heap := h3, toks := s1.toks + 1 } := S2.keepBut hk (tk := s1.toks + 1) (h' := h3) (wr := [C]) (mem1 bC) fun b o hb e => (sb3.2 b (ne_mem1 hb)).trans e
    have hD3 : h3.get? D0 = some (lobj ws m) := (sb3.2 _ (Ne.symm nCD)).trans hD2
    have w5 : h3.IsListIter I0 a (pre.length + 1) := by
      refine hide fun P_ hP_ => ?_
      obtain ⟨o, ho, rr⟩ := w4
      refine hP_ ?_
      clear hP_ P_
      exact ⟨o, (sb3.2 _ (Ne.symm nCI)).trans ho, rr⟩
    have hH : ∀ b ∈ [D0, I0], Apart c Z1 Y σ1 b := mem2 (bD) (bI)
    have hex : ∀ b ∈ [D0, I0], ∃ o, h3.get? b = some o := mem2 (⟨_, hD3⟩) (let ⟨o, ho, _⟩ := w5; ⟨o, ho⟩)
    have hCH : C ∉ [D0, I0] := by simp [nCD, nCI]
    have rd : RV Z1 v (.d d) := rv.mono x1
    have SK := S3.kid hk hc hx hn3 (by simp) rd bC hH hCH
    refine turn pre d post acc σ1 hi h1 hal Z1 _ _ _ _ SK fun Z4 b σ4 s4 x4 k4 S4 => ?_
    have key : ∀ {Z5 : Zone} {σ5 : Sto} {ρ5 : Vars} {s5 : Shared}, Ext Z1 Z5 → St (cc c scope cl C) Z5 (holdY [D0, I0] (St.lend c Y { s1 with heap := h3, toks := s1.toks + 1 }) { s1 with heap := h3, toks := s1.toks + 1 }) ρ5 σ5 s5 →
        St c Z5 Y ρ σ5 s5 ∧ s5.heap.IsListIter I0 a (pre.length + 1) ∧ s5.heap.get? D0 = some (lobj ws m) ∧ (∃ m, s5.heap.Ns C m) ∧ Apart c Z5 Y σ5 I0 ∧ Apart c Z5 Y σ5 D0 ∧ Apart c Z5 Y σ5 C := by
      intro Z5 σ5 ρ5 s5 x5 S5
      refine hide fun P_ hP_ => ?_
      obtain ⟨g1, g2, g3, g4, g5⟩ := S3.unkid hk x5 bC hH hex S5
      refine hP_ ?_
      clear hP_ P_
      refine ⟨g1, ?_, g4 _ (.head _) _ hD3, g5, g3 _ (.tail _ (.head _)), g3 _ (.head _), g2⟩
      refine hide fun P_ hP_ => ?_
      obtain ⟨o, ho, rr⟩ := w5
      refine hP_ ?_
      clear hP_ P_
      exact ⟨o, g4 _ (.tail _ (.head _)) _ ho, rr⟩
    cases b with
    | false =>
      simp only [Bool.false_eq_true, if_false] at k4 ⊢
      refine hide fun P_ hP_ => ?_
      obtain ⟨g1, g2, g3, g4, g5, g6, g7⟩ := key x4 S4
      refine hP_ ?_
      clear hP_ P_
      exact ⟨post.length, by rw [hkk]; simp, Z4, σ4, pre ++ [d], post, acc, ws, m, by rw [hi]; simp, rfl, x1.trans x4, g1, k4, by rw [List.length_append, List.length_singleton]; (first | lia | omega), by rw [List.length_append, List.length_singleton]; exact g2, g3, rA.mono x4, g4, g5, g6, g7⟩
    | true =>
      simp only [if_true] at k4 ⊢
      refine k4 Z4 _ s4 _ _ S4 fun Z5 u w σ5 s5 x5 r5 k5 S5 => ?_
      refine hide fun P_ hP_ => ?_
      obtain ⟨e, rfl, k5⟩ := k5
      refine hP_ ?_
      clear hP_ P_
      refine hide fun P_ hP_ => ?_
      obtain ⟨g1, g2, g3, g4, g5, g6, g7⟩ := key (x4.trans x5) S5
      refine hP_ ?_
      clear hP_ P_
      have hpl : pre.length ≤ items.length := by rw [hi]; simp
      refine lobj_append g3 (by rw [rA.length]; (first | lia | omega)) fun h6 n6 e6 sb6 => ?_
      have S6 := g1.keepBut hk (tk := s5.toks) (h' := h6) (wr := [D0]) (mem1 g6) fun b o hb e => (sb6.2 b (ne_mem1 hb)).trans e
      refine ⟨post.length, by rw [hkk]; simp, Z5, σ5, pre ++ [d], post, acc ++ [e], ws ++ [u], n6, by rw [hi]; simp, rfl, (x1.trans x4).trans x5, S6, k5, by simp; exact hal, ?_, e6, (rA.mono (x4.trans x5)).append (.cons r5 .nil), ?_, g5, g6, g7⟩
      · rw [List.length_append, List.length_singleton]
        refine hide fun P_ hP_ => ?_
        obtain ⟨o, ho, rr⟩ := g2
        refine hP_ ?_
        clear hP_ P_
        exact ⟨o, (sb6.2 _ (Ne.symm nDI)).trans ho, rr⟩
      · obtain ⟨m7, h7⟩ := g4
        exact ⟨m7, h7.sameBut sb6 nCD⟩

/-- an object apart joins the zone or the store -/
theorem St.joinL (S : St c Z Y ρ σ s) (hk : c.Ok) {a : Addr} {vs : List Value} {n : Nat} {ds : List D} (hA : Apart c Z Y σ a) (ho : s.heap.get? a = some (lobj vs n)) (r : Rvs Z vs ds) (hn : NewL K σ ds) :
    E3 fun Z' v σ' => A5 (Ext Z Z') (RV Z' (.ref a) v) (K v σ') (St c Z' Y ρ σ' s) (∀ b, b ≠ a → Apart c Z Y σ b → Apart c Z' Y σ' b) := by
  rcases hn with hn | hn
  · have x : Ext Z (Z.put a (lobj vs n)) := Zone.ext_put hA.z
    have g : G c.r0 (Z.put a (lobj vs n)) Y σ s := by
      refine ⟨S.g.same, fun b o' e => x _ _ (S.g.base b o' e), fun b o' e => ?_, S.g.keepY, fun b o' e => ?_, fun b l e => ?_⟩
      · simp only [Zone.put] at e
        split at e
        · rename_i q; cases e; rw [q]; exact ho
        · exact S.g.keep b o' e
      · simp only [Zone.put]
        split
        · rename_i q; rw [q, hA.y] at e; cases e
        · exact S.g.zy b o' e
      · refine hide fun P_ hP_ => ?_
        obtain ⟨h1, h2, vs', n', h3, h4⟩ := S.g.lists b l e
        refine hP_ ?_
        clear hP_ P_
        refine ⟨?_, h2, vs', n', h3, h4.mono x⟩
        simp only [Zone.put]
        split
        · rename_i q; rw [q, hA.s] at e; cases e
        · exact h1
    refine ⟨_, .d (.lst ds), σ, x, Rv.lst (Zone.put_self ..) (r.mono x), hn, S.move (h' := s.heap) (tk := s.toks) x g (fun b o _ e => e) (fun b hb => ⟨?_, (S.own b hb).2.2.1⟩) S.notCell (S.notL hk.L), fun b hb h => h.ext ?_ h.s⟩
    · simp only [Zone.put]
      split
      · rename_i q; rw [q] at hb; exact absurd hb hA.o
      · exact (S.own b hb).1
    · simp only [Zone.put, if_neg hb]; exact h.z
  · have g : G c.r0 Z Y (σ.set a ds) s := by
      refine ⟨S.g.same, S.g.base, S.g.keep, S.g.keepY, S.g.zy, fun b l e => ?_⟩
      simp only [Sto.set] at e
      split at e
      · rename_i q; cases e; rw [q]; exact ⟨hA.z, hA.y, vs, n, ho, r⟩
      · exact S.g.lists b l e
    refine ⟨Z, .raw (.ref a), _, Ext.refl Z, rfl, hn a hA.s, S.move (h' := s.heap) (tk := s.toks) (Ext.refl Z) g (fun b o _ e => e) (fun b hb => ⟨(S.own b hb).1, ?_⟩) S.notCell (S.notL hk.L), fun b hb h => h.ext h.z ?_⟩
    · rw [Sto.set_ne]
      · exact (S.own b hb).2.2.1
      · rintro rfl; exact hA.o hb
    · rw [Sto.set_ne _ _ hb]; exact h.s

/-- what a comprehension asks -/
def Comp (c : Cx) (ρ : Vars) (σ1 : Sto) (x : String) (elt : Expr) (ifs : List Expr) (scope : Scope) (cl : List (Str × Addr)) (v : V) (Fin : List D → Sto → Prop) : Prop :=
  E2 fun (items : List D) (I : List D → List D → Sto → Prop) => A5 (v = .d (.lst items)) (items.length ≤ 1000000) (I [] [] σ1) (∀ C pre d post acc σ, (cc c scope cl C).Ok → items = pre ++ d :: post → I pre acc σ → acc.length ≤ pre.length → Ifs (cc c scope cl C) ((seen cl ρ).set x (.d d)) σ ifs fun b σ1 => if b = true then Ev (cc c scope cl C) ((seen cl ρ).set x (.d d)) σ1 elt fun v σ2 => ∃ e, v = .d e ∧ I (pre ++ [d]) (acc ++ [e]) σ2 else I (pre ++ [d]) acc σ1) (∀ acc σ2, I items acc σ2 → acc.length ≤ items.length → Fin acc σ2)

theorem fm_at {α : Type} {items : List α} {enc : α → D} {pre post : List D} {d : D} (h : items.map enc = pre ++ d :: post) : ∃ t, A3 (t ∈ items) (enc t = d) (items.take (pre ++ [d]).length = items.take pre.length ++ [t]) := by
  obtain ⟨l1, l2, rfl, h1, h2⟩ := List.map_eq_append_iff.mp h
  cases l2 with
  | nil => cases h2
  | cons t rest =>
    rw [List.map_cons] at h2
    injection h2 with h2 _
    have e : pre.length = l1.length := by rw [← h1, List.length_map]
    refine ⟨t, List.mem_append_right _ (.head _), h2, ?_⟩
    rw [List.length_append, e, List.take_left, List.append_cons]
    exact List.take_left' (by simp)
/-- a comprehension that keeps the state: what is kept, and what becomes of it -/
theorem comp_fm {α : Type} {x : String} {elt : Expr} {ifs : List Expr} {scope : Scope} {cl : List (Str × Addr)} {Fin : List D → Sto → Prop} (items : List α) (enc f : α → D) (p : α → Bool) (res : List D) (hr : (items.filter p).map f = res) (hz : items.length ≤ 1000000)
    (turn : ∀ C t, t ∈ items → (cc c scope cl C).Ok → Ifs (cc c scope cl C) ((seen cl ρ).set x (.d (enc t))) σ ifs fun b σ1 => if b = true then Ev (cc c scope cl C) ((seen cl ρ).set x (.d (enc t))) σ1 elt fun v σ2 => A3 (p t = true) (v = .d (f t)) (σ = σ2) else p t = false ∧ σ = σ1)
    (fin : Fin res σ) : Comp c ρ σ x elt ifs scope cl (.d (.lst (items.map enc))) Fin := by
  refine ⟨items.map enc, fun pre acc σ' => σ = σ' ∧ acc = ((items.take pre.length).filter p).map f, rfl, by rw [List.length_map]; exact hz, ⟨rfl, rfl⟩, fun C pre d post acc σ' ok hd hI _ => ?_, fun acc σ2 hI _ => ?_⟩
  · refine (fm_at hd).elim fun t h => h.rec fun ht e htk => ?_
    clear hd
    subst e
    refine hI.elim fun e ha => ?_
    clear hI
    subst e
    refine fun Z Y s Q X S q => turn C t ht ok Z Y s Q X S fun Z1 b σ1 s1 x1 k1 S1 => q Z1 b σ1 s1 x1 ?_ S1
    cases b with
    | true => exact Ev.mono k1 fun v σ2 k2 => k2.rec fun h1 h2 h3 => ⟨f t, h2, h3, by rw [ha, htk, List.filter_append, List.map_append, List.filter_cons_of_pos h1]; rfl⟩
    | false => exact k1.elim fun h1 h2 => ⟨h2, by rw [ha, htk, List.filter_append, List.filter_cons_of_neg (by rw [h1]; exact Bool.false_ne_true), List.filter_nil, List.append_nil]⟩
  · dsimp only at hI
    rw [List.length_map, List.take_length, hr] at hI
    exact hI.1 ▸ hI.2 ▸ fin
theorem filter_tt {α : Type} {f : α → D} (l : List α) : (l.filter fun _ => true).map f = l.map f := by rw [List.filter_eq_self.mpr fun _ _ => rfl]

theorem comp_block (hk : c.Ok) {elt iter : Expr} {x : String} {px : Pos} {ifs : List Expr} {scope : Scope} {cl : List (Str × Addr)} {a : Addr} {items : List D} {vs : List Value} {n : Nat} {X : Value → Shared → Prop} {RR : Value → Addr → Result → Shared → Prop}
    (hc : Clos c scope cl) (hx : scope.names.lookup (Str.ofString x) = some .local) (S : St c Z Y ρ σ s) (ha : Z a = some (lobj vs n)) (r : Rvs Z vs items) (hz : items.length ≤ 1000000)
    (I : List D → List D → Sto → Prop) (h0 : I [] [] σ)
    (turn : ∀ C pre d post acc σ, (cc c scope cl C).Ok → items = pre ++ d :: post → I pre acc σ → acc.length ≤ pre.length → Ifs (cc c scope cl C) ((seen cl ρ).set x (.d d)) σ ifs fun b σ1 => if b = true then Ev (cc c scope cl C) ((seen cl ρ).set x (.d d)) σ1 elt fun v σ2 => ∃ e, v = .d e ∧ I (pre ++ [d]) (acc ++ [e]) σ2 else I (pre ++ [d]) acc σ1)
    (fin : ∀ D0 C Z' σ' s' ws m acc, Ext Z Z' → St c Z' Y ρ σ' s' → s'.heap.get? D0 = some (lobj ws m) → Rvs Z' ws acc → Apart c Z' Y σ' D0 → (∃ m, s'.heap.Ns C m) → Apart c Z' Y σ' C → C ≠ D0 → acc.length ≤ items.length → I items acc σ' → RR (.ref D0) C (.ok .next) s') :
    wpAny (model c.prog c.w) c.A (pyIter (.ref a)) (fun it s₂ => wpAny (model c.prog c.w) c.A (newList []) (fun acc s₃ => wpAny (model c.prog c.w) c.A (newFunctionEnv scope c.env.globals cl [] c.env.qual none .none (some c.env)) (fun cenv s₄ =>
      codeAny (model c.prog c.w) c.A (.compStart (.ListComp elt [⟨.Name (Str.ofString x) px, iter, ifs, 0⟩] scope pos) 0 it acc { cenv with scope := relabel scope c.env }) (RR acc cenv.locals) s₄) X s₃) X s₂) X s := by
  refine wpAny_pyIter_list (isList_of S.g.keep ha) ?_
  refine wpAny_newObj_type (wpAny_newFunctionEnv hc.cell (by intro y hy; simp at hy) (fun h₁ hns₁ hsb₁ => ?_) hc.kind)
  dsimp only at hns₁ hsb₁ ⊢
  have z1 : (s.heap.push { cls := .type "list_iterator", data := .fields #[.ref a, .int 0 0] }).objs.size = s.heap.objs.size + 1 := Heap.size_push ..
  generalize hH1 : s.heap.push { cls := .type "list_iterator", data := .fields #[.ref a, .int 0 0] } = H1 at hns₁ hsb₁ z1 ⊢
  have z2 : (H1.push { cls := .type "list", dict := none, data := .seq ([] : List Value).toArray }).objs.size = s.heap.objs.size + 2 := by rw [Heap.size_push, z1]
  generalize hH2 : H1.push { cls := .type "list", dict := none, data := .seq ([] : List Value).toArray } = H2 at hns₁ hsb₁ z2 ⊢
  have fr : ∀ k, s.heap.get? (s.heap.objs.size + k) = none := fun k => Heap.get?_none_of_le (Nat.le_add_right _ _)
  have k1 : ∀ b o, s.heap.get? b = some o → H1.get? b = some o := fun b o e => hH1 ▸ Heap.get?_push_of_some _ e
  have k2 : ∀ b o, H1.get? b = some o → H2.get? b = some o := fun b o e => hH2 ▸ Heap.get?_push_of_some _ e
  have k3 : ∀ b o, b ≠ H2.objs.size → H2.get? b = some o → h₁.get? b = some o := fun b o hb e => hsb₁.extBut _ _ hb (Heap.get?_push_of_some _ e)
  have kk : ∀ b o, s.heap.get? b = some o → h₁.get? b = some o := fun b o e => k3 b o (by rw [z2]; exact Nat.ne_of_lt (Nat.lt_of_lt_of_le (Heap.lt_size e) (Nat.le_add_right _ _))) (k2 _ _ (k1 _ _ e))
  have S1 := S.grow hk (tk := s.toks + ([] : List (Str × Value)).length) kk
  have hI : h₁.IsListIter s.heap.objs.size a 0 := ⟨_, k3 _ _ (by rw [z2]; (first | lia | omega)) (k2 _ _ (hH1 ▸ get_push rfl)), rfl, rfl⟩
  have hD : h₁.get? H1.objs.size = some (lobj [] 0) := k3 _ _ (by rw [z1, z2]; (first | lia | omega)) (hH2 ▸ get_push rfl)
  have aI : Apart c Z Y σ s.heap.objs.size := Apart.fresh S (fr 0)
  have aD : Apart c Z Y σ H1.objs.size := by rw [z1]; exact Apart.fresh S (fr 1)
  have aC : Apart c Z Y σ H2.objs.size := by rw [z2]; exact Apart.fresh S (fr 2)
  have ok := cc_ok hk hc aC.c
  have loop : codeAny (model c.prog c.w) c.A (.compLoop (.ListComp elt [⟨.Name (Str.ofString x) px, iter, ifs, 0⟩] scope pos) 0 (.ref s.heap.objs.size) (.ref H1.objs.size) (compEnvC scope cl H2.objs.size c.env)) (RR (.ref H1.objs.size) H2.objs.size) { s with heap := h₁, toks := s.toks + ([] : List (Str × Value)).length } :=
    comp_loop hk hc hx S1 ha r hz hI hD ⟨_, hns₁⟩ aI aD aC (by rw [z1]; exact neN (by (first | lia | omega))) (by rw [z2]; exact neN (by (first | lia | omega))) (by rw [z1, z2]; exact neN (by (first | lia | omega))) I h0 (fun pre d post acc σ' hi => turn _ pre d post acc σ' ok hi)
      fun Z' σ' s' ws m acc x2 S' e1 e2 e3 e4 e5 e6 e7 => fin _ _ Z' σ' s' ws m acc x2 S' e1 e2 e3 e4 e5 (by rw [z1, z2]; exact neN (by (first | lia | omega))) e6 e7
  exact codeAny_compStart_list loop (wpAny_pyIter_listiter hI loop)

theorem ev_comp (hk : c.Ok) {elt iter : Expr} {x : String} {px : Pos} {ifs : List Expr} {scope : Scope} {cl : List (Str × Addr)} (hc : Clos c scope cl) (hx : scope.names.lookup (Str.ofString x) = some .local)
    (h : Ev c ρ σ iter fun v σ1 => Comp c ρ σ1 x elt ifs scope cl v (fun acc σ2 => NewL K σ2 acc)) (hs : ∀ x, foldedSetIterable iter c.env x = pure x) : Ev c ρ σ (.ListComp elt [⟨.Name (Str.ofString x) px, iter, ifs, 0⟩] scope pos) K := fun Z Y s Q X S q => by
  rw [eval_ListComp]
  refine wpAny_comprehension_free (use := none) rfl hs hc.clos hc.kind hc.names (h Z Y s _ X S fun Z1 u v σ1 s1 x1 r1 h1 S1 => ?_)
  refine hide fun P_ hP_ => ?_
  obtain ⟨items, I, rfl, hz, h0, turn, done⟩ := h1
  refine hP_ ?_
  clear hP_ P_
  cases r1 using Rv.lstE with
  | lst e r =>
    refine comp_block (RR := fun acc C => compPost (model c.prog c.w) c.A X none Q acc C) hk hc hx S1 e r hz I h0 turn fun D0 C Z' σ' s' ws m acc x2 S' e1 e2 e3 e4 e5 e6 e7 e8 => ?_
    obtain ⟨m', hm'⟩ := e4
    refine ⟨m', hm', fun h' sb => ?_⟩
    have S2 := S'.keepBut hk (tk := s'.toks) (h' := h') (wr := [C]) (mem1 e5) fun b o hb e => (sb.2 b (ne_mem1 hb)).trans e
    refine hide fun P_ hP_ => ?_
    obtain ⟨Z3, v, σ3, x3, rv, kv, S3, -⟩ := S2.joinL hk e3 ((sb.2 _ (Ne.symm e6)).trans e1) e2 (done acc σ' e8 e7)
    refine hP_ ?_
    clear hP_ P_
    exact q Z3 _ v σ3 _ ((x1.trans x2).trans x3) rv kv S3

theorem ex_assign_comp (hk : c.Ok) {y : String} {elt iter : Expr} {x : String} {px : Pos} {ifs : List Expr} {scope : Scope} {cl : List (Str × Addr)} {K : Fl → Vars → Sto → Prop} (hc : Clos c scope cl) (hx : scope.names.lookup (Str.ofString x) = some .local)
    (hy : c.env.kindOf (Str.ofString y) = some .local) (hsw : swapsWith (.ListComp elt [⟨.Name (Str.ofString x) px, iter, ifs, 0⟩] scope p2) (some (.Name (Str.ofString y) p1)) pos.line c.env = pure true)
    (h : Ev c ρ σ iter fun v σ1 => Comp c ρ σ1 x elt ifs scope cl v (fun acc σ2 => NewL (fun v σ3 => K .next (ρ.set y v) σ3) σ2 acc)) (hs : ∀ x, foldedSetIterable iter c.env x = pure x) :
    Ex1 c ρ σ (.Assign [.Name (Str.ofString y) p1] (.ListComp elt [⟨.Name (Str.ofString x) px, iter, ifs, 0⟩] scope p2) pos) K := fun Z Y s Q X S q => by
  rw [exec_Assign_Name_used _ _ _ _ hsw]
  refine wpAny_bind (wpAny_standAt (wpAny_bind ?_))
  show wpAny _ c.A (do let _ ← comprehension (.ListComp elt [⟨.Name (Str.ofString x) px, iter, ifs, 0⟩] scope p2) scope c.env _ (newList []) false (eval iter c.env) (some (assign (.Name (Str.ofString y) p1) c.env))) _ _ s
  refine wpAny_bind (wpAny_mono (wpAny_comprehension_free (use := some (assign (.Name (Str.ofString y) p1) c.env)) (Q := fun _ s' => Q .next s') rfl hs hc.clos hc.kind hc.names
    (h Z Y s _ X S fun Z1 u v σ1 s1 x1 r1 h1 S1 => ?_)) (fun _ s' hq => wpAny_pure (wpAny_pure hq)) fun _ _ e => e)
  refine hide fun P_ hP_ => ?_
  obtain ⟨items, I, rfl, hz, h0, turn, done⟩ := h1
  refine hP_ ?_
  clear hP_ P_
  cases r1 using Rv.lstE with
  | lst e r =>
    refine comp_block (RR := fun acc C => compPost (model c.prog c.w) c.A X (some (assign (.Name (Str.ofString y) p1) c.env)) (fun _ s' => Q .next s') acc C) hk hc hx S1 e r hz I h0 turn fun D0 C Z' σ' s' ws m acc x2 S' e1 e2 e3 e4 e5 e6 e7 e8 => ?_
    refine hide fun P_ hP_ => ?_
    obtain ⟨Z3, v, σ3, x3, rv, kv, S3, ap⟩ := S'.joinL hk e3 e1 e2 (done acc σ' e8 e7)
    refine hP_ ?_
    clear hP_ P_
    show wpAny _ c.A (assign (.Name (Str.ofString y) p1) c.env (.ref D0)) _ _ _
    have aC : Apart c Z3 Y σ3 C := ap C e6 e5
    have hA : ∀ b ∈ [C], Apart c Z3 Y σ3 b := mem1 aC
    refine hide fun P_ hP_ => ?_
    obtain ⟨m', oC, es, ep, e9, rr⟩ := e4
    refine hP_ ?_
    clear hP_ P_
    refine wpAny_assign_Name (store_local hk hy (S3.hold hA) rv fun s4 S4 => ?_)
    refine ⟨m', ⟨oC, es, ep, (S4.g.held (.head _) e9).2.2, rr⟩, fun h' sb => ?_⟩
    have S5 := S3.unhold hA S4
    have S6 := S5.keepBut hk (tk := s4.toks) (h' := h') (wr := [C]) (Apart.after hA S4 (mem1 ⟨_, e9⟩)) fun b o hb e => (sb.2 b (ne_mem1 hb)).trans e
    exact q Z3 _ _ _ σ3 _ ((x1.trans x2).trans x3) .next kv S6
end
end Mine
namespace Mine
open PySem.SeqAt Classical

theorem Rvs.ints {Z : Zone} : ∀ {vs : List Value} {ns : List Int}, Rvs Z vs (ns.map D.int) → IntsAre vs ns := by
  intro vs ns r
  generalize hd : ns.map D.int = ds at r
  induction vs generalizing ns ds with
  | nil =>
    (first | cases r using Rv.intE | cases r using Rv.boolE | cases r using Rv.noneE | cases r using Rv.lstE | cases r using Rv.tupE | cases r using RVs.nilE | cases r using Rvs.nilE | cases r)
    cases ns with
    | nil => exact .nil
    | cons a b => simp at hd
  | cons v vs ih =>
    cases r with
    | cons h r =>
      cases ns with
      | nil => simp at hd
      | cons a b =>
        simp only [List.map_cons, List.cons.injEq] at hd
        obtain ⟨rfl, hd⟩ := hd
        cases h
        exact .cons _ _ (ih _ hd r)
theorem IntsAre.rvs {Z : Zone} {vs : List Value} {ns : List Int} (h : IntsAre vs ns) : Rvs Z vs (ns.map D.int) := by
  induction h with
  | nil => exact .nil
  | cons n t _ ih => exact .cons (.int n t) ih

section
variable {c : Cx} {Z Y : Zone} {ρ : Vars} {σ : Sto} {s : Shared} {K : V → Sto → Prop} {pos p1 p2 : Pos}

theorem Vw.list (S : St c Z Y ρ σ s) {v : V} {ds : List D} {u : Value} (hv : Vw σ v (.lst ds)) (r : RV Z u v) : E3 fun a vs n => A3 (u = .ref a) (IsL s.heap a vs.toArray n) (Rvs Z vs ds) := by
  cases hv with
  | d => cases r using Rv.lstE with
    | lst e r => exact ⟨_, _, _, rfl, S.g.keep _ _ e, r⟩
  | p e =>
    (first | cases r using Rv.intE | cases r using Rv.boolE | cases r using Rv.noneE | cases r using Rv.lstE | cases r using Rv.tupE | cases r using RVs.nilE | cases r using Rvs.nilE | cases r)
    refine hide fun P_ hP_ => ?_
    obtain ⟨vs, n, h1, h2⟩ := S.g.isList e
    refine hP_ ?_
    clear hP_ P_
    exact ⟨_, vs, n, rfl, h1, h2⟩
theorem rvs1 {Z : Zone} {us : List Value} {v : V} (r : RVs Z us [v]) : ∃ u, us = [u] ∧ RV Z u v := by
  cases r using RVs.consE with
  | cons ra r1 => (first | cases r1 using Rv.intE | cases r1 using Rv.boolE | cases r1 using Rv.noneE | cases r1 using Rv.lstE | cases r1 using Rv.tupE | cases r1 using RVs.nilE | cases r1 using Rvs.nilE | cases r1); exact ⟨_, rfl, ra⟩

theorem cl_len (hk : c.Ok) {v : V} {ds : List D} (hv : Vw σ v (.lst ds)) (hz : ds.length ≤ 1000000) (h : K (.d (.int ds.length)) σ) : Cl c ρ σ (.builtin "len") [v] K := fun Z Y s Q X us S r q => by
  refine hide fun P_ hP_ => ?_
  obtain ⟨u, rfl, ru⟩ := rvs1 r
  refine hP_ ?_
  clear hP_ P_
  refine hide fun P_ hP_ => ?_
  obtain ⟨a, vs, n, rfl, h1, h2⟩ := hv.list S ru
  refine hP_ ?_
  clear hP_ P_
  have hl := h2.length
  refine Calls.call_len_list (IsL.isList h1) (by rw [List.size_toArray]; (first | lia | omega)) ?_
  rw [List.size_toArray, hl]
  exact q Z _ _ σ _ (Ext.refl Z) RV.int h (S.tok hk)
/-- the truth of a list -/
theorem tst_list (hk : c.Ok) {e : Expr} {K : Bool → Sto → Prop} (he : isTrue e c.env (eval e c.env) = (do let v ← eval e c.env; standAt e.pos; holding [v] (truthy v)))
    (h : Ev c ρ σ e fun v σ1 => ∃ ds, A3 (Vw σ1 v (.lst ds)) (ds.length ≤ 1000000) (K (!ds.isEmpty) σ1)) : Tst c ρ σ e K := fun Z Y s Q X S q => by
  refine wpAny_isTrue_value (h Z Y s _ X S fun Z1 u v σ1 s1 x1 r1 h1 S1 => ?_) he
  refine hide fun P_ hP_ => ?_
  obtain ⟨ds, hv, hz, k⟩ := h1
  refine hP_ ?_
  clear hP_ P_
  refine hide fun P_ hP_ => ?_
  obtain ⟨a, vs, n, rfl, h1, h2⟩ := hv.list S1 r1
  refine hP_ ?_
  clear hP_ P_
  have hl := h2.length
  refine wpAny_truthy_list (IsL.isList h1) (by rw [List.size_toArray]; (first | lia | omega)) ?_
  have e : vs.toArray.isEmpty = ds.isEmpty := by
    cases vs <;> cases ds <;> simp_all
  rw [e]
  exact q Z1 _ σ1 _ x1 k (S1.tok hk)

theorem sum_raw {prog : Program} {w : World} {A : Around} {X : Value → Shared → Prop} {l : Addr} {vs : List Value} {ns : List Int} {Q : Value → Shared → Prop} (hh : A.handled = none) (hl : s.heap.IsList l vs.toArray) (hi : IntsAre vs ns)
    (h : ∀ h' tk t', (∀ b o, s.heap.get? b = some o → h'.get? b = some o) → Q (.int ns.sum t') { s with heap := h', toks := tk }) : wpAny (model prog w) A (call (.builtin "sum") [.ref l]) Q X s := by
  obtain ⟨xs, e⟩ := hi.allInts.items
  have hns : ns = xs.toList.map (·.1) := by
    rw [← hi.numsOf, ← nums_intItems, ← e]
  rw [e] at hl
  refine call_sum_walkG (iter_intList hl fun s₂ e st hfp hlI => ?_)
  subst e
  refine ⟨_, _, _, _, _, _, numAt xs, rfl, Walks.list (A := A.in1) hh _ l hlI (intItems xs), st, hfp, (fun _ _ => intItems_at), fun h' tk t' hk => ?_⟩
  have := h h' tk t' (old_kept hk)
  rw [show (intItems xs).size = xs.size by simp [intItems], preSum_eq, List.take_of_length_le (by simp)]
  rw [hns] at this
  exact this
theorem cl_sum (hk : c.Ok) {v : V} {ns : List Int} (hv : Vw σ v (.lst (ns.map D.int))) (h : K (.d (.int ns.sum)) σ) : Cl c ρ σ (.builtin "sum") [v] K := fun Z Y s Q X us S r q => by
  refine hide fun P_ hP_ => ?_
  obtain ⟨u, rfl, ru⟩ := rvs1 r
  refine hP_ ?_
  clear hP_ P_
  refine hide fun P_ hP_ => ?_
  obtain ⟨a, vs, n, rfl, h1, h2⟩ := hv.list S ru
  refine hP_ ?_
  clear hP_ P_
  exact sum_raw hk.hand (IsL.isList h1) h2.ints fun h' tk t' kk => q Z _ _ σ _ (Ext.refl Z) RV.int h (S.grow hk kk)
/-- min of a list of ints, with an order told by what it is -/
theorem cl_min (hk : c.Ok) {v : V} {ns : List Int} (hv : Vw σ v (.lst (ns.map D.int))) (hne : 0 < ns.length) (h : ∀ m, m ∈ ns → (∀ a ∈ ns, m ≤ a) → K (.d (.int m)) σ) : Cl c ρ σ (.builtin "min") [v] K := fun Z Y s Q X us S r q => by
  refine hide fun P_ hP_ => ?_
  obtain ⟨u, rfl, ru⟩ := rvs1 r
  refine hP_ ?_
  clear hP_ P_
  refine hide fun P_ hP_ => ?_
  obtain ⟨a, vs, n, rfl, h1, h2⟩ := hv.list S ru
  refine hP_ ?_
  clear hP_ P_
  have hi := h2.ints
  obtain ⟨xs, e⟩ := hi.allInts.items
  have hns : ns = xs.toList.map (·.1) := by
    rw [← hi.numsOf, ← nums_intItems, ← e]
  have hsz : 0 < xs.size := by
    have h3 := hne; rw [hns, List.length_map, Array.length_toList] at h3; exact h3
  have hl : s.heap.IsList a (intItems xs) := e ▸ IsL.isList h1
  refine min_intList hk.hand hl hsz fun v h' tk hv' kk => ?_
  obtain ⟨t, rfl⟩ := intItems_at hv'
  obtain ⟨g1, g2⟩ := argBest_lt (numAt xs) (xs.size - 1)
  refine q Z _ _ σ _ (Ext.refl Z) RV.int (h _ ?_ fun b hb => ?_) (S.grow hk kk)
  · rw [hns, numAt_eq]; exact PySem.getD_mem (by rw [List.length_map, Array.length_toList]; (first | lia | omega))
  · rw [hns] at hb
    refine hide fun P_ hP_ => ?_
    obtain ⟨j, hj, rfl⟩ := mem_getD hb
    refine hP_ ?_
    clear hP_ P_
    rw [List.length_map, Array.length_toList] at hj
    rw [← numAt_eq]; exact g2 j (by (first | lia | omega))
theorem cl_list (hk : c.Ok) {v : V} {ds : List D} (hv : Vw σ v (.lst ds)) (hz : ds.length ≤ 1000000) (hn : NewL K σ ds) : Cl c ρ σ (.type "list") [v] K := fun Z Y s Q X us S r q => by
  refine hide fun P_ hP_ => ?_
  obtain ⟨u, rfl, ru⟩ := rvs1 r
  refine hP_ ?_
  clear hP_ P_
  refine hide fun P_ hP_ => ?_
  obtain ⟨a, vs, n, rfl, h1, h2⟩ := hv.list S ru
  refine hP_ ?_
  clear hP_ P_
  have hl := h2.length
  refine call_list_seq a (.inl rfl) h1 rfl rfl (fun h' c' kk ho => ?_) (by rw [List.size_toArray, sizeLine_eq]; (first | lia | omega))
  refine hide fun P_ hP_ => ?_
  obtain ⟨Z', v', σ', xx, rv, kv, S'⟩ := S.newList hk (tk := s.toks) (get_size _) kk ho h2 hn
  refine hP_ ?_
  clear hP_ P_
  exact q Z' _ v' σ' _ xx rv kv S'

/-! ### methods of a list of the store -/
theorem upd_seq {l : Addr} {vs : List Value} {n : Nat} {f : Array Value → Array Value} {ws : List Value} (hl : IsL s.heap l vs.toArray n) (hf : f vs.toArray = ws.toArray) :
    ∃ n', (s.heap.update l (Obj.mapSeq f)).get? l = some (lobj ws n') ∧ ∀ b, b ≠ l → ∀ o, s.heap.get? b = some o → (s.heap.update l (Obj.mapSeq f)).get? b = some o :=
  ⟨_, by have := get?_update_seq hl f; rw [hf] at this; exact this, fun b hb o e => (Heap.get?_update_ne _ _ _ _ hb).trans e⟩
theorem NoDict.list {l : Addr} {xs : Array Value} {n : Nat} (hl : IsL s.heap l xs n) : s.heap.NoDictAt (.ref l) := ⟨_, hl, rfl⟩

/-- o.m(..) on a list -/
theorem ev_meth {o : Expr} {nm : Str} {pl : Sem Bool} {id : String} {apos : Pos} {args : List Expr} {kws : List Keyword} (slot : Slot "list" nm id) (hty : typeOf (.builtin id) = pure (.type "method_descriptor"))
    (he : eval (.Call (.Attribute o nm apos) args kws pos) c.env = (do
      let ov ← eval o c.env
      standAt apos.atName
      let (f, first) ← holding [ov] (getMethod ov nm pl)
      callWith pos f first (backTo pos (starEach args c.env)) (backToKw pos (keywordEach kws c.env))))
    (h : Ev c ρ σ o fun v σ1 => E2 fun a l => A3 (v = .raw (.ref a)) (σ1 a = some l) (∀ Z Y s Q X, St c Z Y ρ σ1 s → (∀ Z' u v σ' s', Ext Z Z' → RV Z' u v → K v σ' → St c Z' Y ρ σ' s' → Q u s') →
      wpAny (model c.prog c.w) c.A (callWith pos (.builtin id) [.ref a] (backTo pos (starEach args c.env)) (backToKw pos (keywordEach kws c.env))) Q X s)) :
    Ev c ρ σ (.Call (.Attribute o nm apos) args kws pos) K := fun Z Y s Q X S q =>
  methodCall_KW (h Z Y s _ X S fun Z1 u v σ1 s1 x1 r1 h1 S1 => by
    refine hide fun P_ hP_ => ?_
    obtain ⟨a, l, rfl, ha, h1⟩ := h1
    refine hP_ ?_
    clear hP_ P_
    (first | cases r1 using Rv.intE | cases r1 using Rv.boolE | cases r1 using Rv.noneE | cases r1 using Rv.lstE | cases r1 using Rv.tupE | cases r1 using RVs.nilE | cases r1 using Rvs.nilE | cases r1)
    refine hide fun P_ hP_ => ?_
    obtain ⟨vs, n, g1, g2⟩ := S1.g.isList ha
    refine hP_ ?_
    clear hP_ P_
    exact getMethod_list_of slot hty (IsL.isList g1) (NoDict.list g1) (h1 Z1 Y s1 Q X S1 fun Z2 u v σ2 s2 x2 r2 k2 S2 => q Z2 u v σ2 s2 (x1.trans x2) r2 k2 S2)) he
theorem ev_append (hk : c.Ok) {o e : Expr} {pl : Sem Bool} {apos : Pos}
    (he : eval (.Call (.Attribute o "append" apos) [e] [] pos) c.env = (do
      let ov ← eval o c.env
      standAt apos.atName
      let (f, first) ← holding [ov] (getMethod ov "append" pl)
      callWith pos f first (backTo pos (starEach [e] c.env)) (backToKw pos (keywordEach [] c.env))))
    (hs : starEach [e] c.env = [(false, eval e c.env)])
    (h : Ev c ρ σ o fun v σ1 => E2 fun a l => A3 (v = .raw (.ref a)) (σ1 a = some l) (Ev c ρ σ1 e fun v σ2 => E2 fun d l => A4 (v = .d d) (σ2 a = some l) (l.length ≤ 1000000) (K (.d .none) (σ2.set a (l ++ [d]))))) :
    Ev c ρ σ (.Call (.Attribute o "append" apos) [e] [] pos) K := by
  refine ev_meth PySem.slot_list_append PySem.F.type_list_append he (Tr.mono h fun v σ1 h1 => ?_)
  refine hide fun P_ hP_ => ?_
  obtain ⟨a, l, rfl, ha, h1⟩ := h1
  refine hP_ ?_
  clear hP_ P_
  refine ⟨a, l, rfl, ha, fun Z Y s Q X S q => ?_⟩
  rw [hs]
  show wpAny _ _ (callWith pos (.builtin "list.append") [.ref a] [(false, eval e c.env)] []) Q X s
  refine P.append_list (h1 Z Y s _ X S fun Z1 u v σ2 s2 x2 r2 h2 S2 => ?_)
  refine hide fun P_ hP_ => ?_
  obtain ⟨d, l2, rfl, ha2, hz, k⟩ := h2
  refine hP_ ?_
  clear hP_ P_
  refine hide fun P_ hP_ => ?_
  obtain ⟨vs, n, g1, g2⟩ := S2.g.isList ha2
  refine hP_ ?_
  clear hP_ P_
  have hl := g2.length
  refine hide fun P_ hP_ => ?_
  obtain ⟨n', e1, e2⟩ := upd_seq (f := fun xs => xs.push u) (ws := vs ++ [u]) g1 (by simp)
  refine hP_ ?_
  clear hP_ P_
  exact ⟨vs.toArray, n, by rw [List.size_toArray, sizeLine_eq]; (first | lia | omega), g1, q Z1 _ _ _ _ x2 RV.none k (S2.upd hk (tk := s2.toks) ha2 e2 e1 (g2.append (.cons r2 .nil)))⟩
theorem ev_pop (hk : c.Ok) {o : Expr} {pl : Sem Bool} {apos : Pos}
    (he : eval (.Call (.Attribute o "pop" apos) [] [] pos) c.env = (do
      let ov ← eval o c.env
      standAt apos.atName
      let (f, first) ← holding [ov] (getMethod ov "pop" pl)
      callWith pos f first (backTo pos (starEach [] c.env)) (backToKw pos (keywordEach [] c.env))))
    (h : Ev c ρ σ o fun v σ1 => E3 fun a l d => A4 (v = .raw (.ref a)) (σ1 a = some (l ++ [d])) (l.length ≤ 1000000) (K (.d d) (σ1.set a l))) :
    Ev c ρ σ (.Call (.Attribute o "pop" apos) [] [] pos) K := by
  refine ev_meth PySem.F.slot_list_pop PySem.F.type_list_pop he (Tr.mono h fun v σ1 h1 => ?_)
  refine hide fun P_ hP_ => ?_
  obtain ⟨a, l, d, rfl, ha, hz, k⟩ := h1
  refine hP_ ?_
  clear hP_ P_
  refine ⟨a, l ++ [d], rfl, ha, fun Z Y s Q X S q => ?_⟩
  show wpAny _ _ (callWith pos (.builtin "list.pop") [.ref a] [] []) Q X s
  refine hide fun P_ hP_ => ?_
  obtain ⟨vs, n, g1, g2⟩ := S.g.isList ha
  refine hP_ ?_
  clear hP_ P_
  have hl := g2.length
  rw [List.length_append, List.length_singleton] at hl
  refine hide fun P_ hP_ => ?_
  obtain ⟨v, hv, rv⟩ := g2.get (i := l.length) (d := d) (by simp)
  refine hP_ ?_
  clear hP_ P_
  have hsz : vs.toArray.size - 1 = l.length := by rw [List.size_toArray]; (first | lia | omega)
  refine P.pop_list (y := v) g1 (by rw [hsz, List.getElem?_toArray]; exact hv) ?_ (by rw [List.size_toArray, sizeLine_eq]; (first | lia | omega))
  have ht : Rvs Z (vs.take l.length) l := by have := g2.take (i := l.length); simpa using this
  obtain ⟨n', e1, e2⟩ := upd_seq (f := fun xs => xs.eraseIdxIfInBounds (vs.toArray.size - 1)) (ws := vs.take l.length) g1 (by
    rw [hsz]
    apply Array.toList_inj.mp
    rw [Array.toList_eraseIdxIfInBounds]
    have h3 : (vs.toArray.toList).eraseIdx l.length = vs.take l.length := by
      rw [List.eraseIdx_eq_take_drop_succ]
      have : vs.drop (l.length + 1) = [] := List.drop_of_length_le (by (first | lia | omega))
      simp [this]
    exact h3)
  exact q Z v (.d d) _ _ (Ext.refl Z) rv k (S.upd hk (tk := s.toks) ha e2 e1 ht)
theorem ev_extend (hk : c.Ok) {o e : Expr} {pl : Sem Bool} {apos : Pos}
    (he : eval (.Call (.Attribute o "extend" apos) [e] [] pos) c.env = (do
      let ov ← eval o c.env
      standAt apos.atName
      let (f, first) ← holding [ov] (getMethod ov "extend" pl)
      callWith pos f first (backTo pos (starEach [e] c.env)) (backToKw pos (keywordEach [] c.env))))
    (hs : starEach [e] c.env = [(false, eval e c.env)])
    (h : Ev c ρ σ o fun v σ1 => E2 fun a l => A3 (v = .raw (.ref a)) (σ1 a = some l) (Ev c ρ σ1 e fun v σ2 => E2 fun ds l => A5 (v = .d (.lst ds)) (σ2 a = some l) (l.length ≤ 100000) (ds.length ≤ 100000) (K (.d .none) (σ2.set a (l ++ ds))))) :
    Ev c ρ σ (.Call (.Attribute o "extend" apos) [e] [] pos) K := by
  refine ev_meth PySem.F.slot_list_extend PySem.F.type_list_extend he (Tr.mono h fun v σ1 h1 => ?_)
  refine hide fun P_ hP_ => ?_
  obtain ⟨a, l, rfl, ha, h1⟩ := h1
  refine hP_ ?_
  clear hP_ P_
  refine ⟨a, l, rfl, ha, fun Z Y s Q X S q => ?_⟩
  rw [hs]
  show wpAny _ _ (callWith pos (.builtin "list.extend") [.ref a] [(false, eval e c.env)] []) Q X s
  refine P.extend_list (h1 Z Y s _ X S fun Z1 u v σ2 s2 x2 r2 h2 S2 => ?_)
  refine hide fun P_ hP_ => ?_
  obtain ⟨ds, l2, rfl, ha2, hz, hz2, k⟩ := h2
  refine hP_ ?_
  clear hP_ P_
  refine hide fun P_ hP_ => ?_
  obtain ⟨vs, n, g1, g2⟩ := S2.g.isList ha2
  refine hP_ ?_
  clear hP_ P_
  cases r2 using Rv.lstE with
  | lst e3 g3 =>
    rename_i b ws m
    have hl := g2.length
    have hl3 := g3.length
    refine hide fun P_ hP_ => ?_
    obtain ⟨n', e1, e2⟩ := upd_seq (f := fun xs => xs ++ ws.toArray) (ws := vs ++ ws) g1 (by simp)
    refine hP_ ?_
    clear hP_ P_
    refine ⟨b, vs.toArray, ws.toArray, n, m, by rw [List.size_toArray, sizeLine_eq]; (first | lia | omega), by rw [List.size_toArray, List.size_toArray, sizeLine_eq]; (first | lia | omega), ?_, rfl, g1, S2.g.keep _ _ e3, q Z1 _ _ _ _ x2 RV.none k (S2.upd hk (tk := s2.toks) ha2 e2 e1 (g2.append g3))⟩
    have : Builtin.List.listTooLong (vs.toArray.size + ws.toArray.size) = false := by
      unfold Builtin.List.listTooLong
      rw [sizeLine_eq]
      simp
      (first | lia | omega)
    rw [this]; simp
end
end Mine
namespace Mine
open PySem.SeqAt Classical

section
variable {prog : Program} {w : World} {A : Around} {E : Value → Shared → Prop} {s : Shared}

theorem sub_ri_reversed : isSubtype (.type "range_iterator") (.type "reversed") = pure false := by rw [isSubtype_type]; kernel_rfl
theorem rangeFields_ {r : Addr} {a b c : Int} {t u v : Tok} {Q : Int × Int × Int → Shared → Prop} (hr : IsRange s.heap r a b c t u v) (h : Q (a, b, c) s) : wpAny (model prog w) A (Builtin.Range.rangeFields (.ref r)) Q E s := by
  unfold Builtin.Range.rangeFields
  have ai : ∀ (i : Int) (t : Tok), asInt? (.int i t) = pure (some i) := fun _ _ => rfl
  refine wpAny_bind (wpAny_field hr rfl (x := .int a t) rfl ?_)
  refine wpAny_bind (wpAny_of_eq (ai _ _) ?_)
  refine wpAny_bind (wpAny_field hr rfl (x := .int b u) rfl ?_)
  refine wpAny_bind (wpAny_of_eq (ai _ _) ?_)
  refine wpAny_bind (wpAny_field hr rfl (x := .int c v) rfl ?_)
  refine wpAny_bind (wpAny_of_eq (ai _ _) ?_)
  exact wpAny_pure h
theorem call_range_reversed {r : Addr} {n : Nat} {t u v : Tok} {Q : Value → Shared → Prop} (hr : IsRange s.heap r 0 n 1 t u v) (hn : n ≤ 1000000)
    (h : Q (.ref s.heap.objs.size) { s with heap := s.heap.push { cls := .type "range_iterator", data := .fields #[rawInt ((n : Int) - 1), rawInt n, rawInt (-1)] } }) : wpAny (model prog w) A (call (.builtin "range.__reversed__") [.ref r]) Q E s := by
  refine wpAny_call_entry PySem.F.slot_range_reversed (T := "range") ⟨_, hr, rfl⟩ PySem.F.entry_range_reversed ?_ (PySem.F.args_range_reversed_1 _)
  unfold Builtin.«range.__reversed__»
  refine wpAny_bind (wpAny_of_eq (a := Value.ref r) rfl ?_)
  refine wpAny_bind (rangeFields_ hr ?_)
  have e1 : Builtin.Range.rangeSize 0 n 1 = n := by
    rw [rangeSize_one]; split <;> (first | lia | omega)
  dsimp only
  rw [e1]
  have hs : (Builtin.Range.rangeFitsLong 0 && Builtin.Range.rangeFitsLong (n : Int) && Builtin.Range.rangeFitsLong 1 && Builtin.Range.rangeFitsLong (-1) && Builtin.Range.rangeFitsLong (0 - 1) && Builtin.Range.rangeFitsLong (n : Int)) = true := by
    unfold Builtin.Range.rangeFitsLong
    simp
    (first | lia | omega)
  rw [hs]
  rw [if_neg (by simp)]
  have e2 : (0 : Int) + ((n : Int) - 1) * 1 = (n : Int) - 1 := by (first | lia | omega)
  rw [e2]
  first
    | exact wpAny_bind (wpAny_newObj_type (wpAny_pure ⟨_, rfl, h⟩))
    | exact wpAny_bind (wpAny_pure (wpAny_bind (wpAny_newObj_type (wpAny_pure ⟨_, rfl, h⟩))))
theorem code_reversed_range {r : Addr} {n : Nat} {t u v : Tok} {Q₁ : Value → Shared → Prop} (hr : IsRange s.heap r 0 n 1 t u v) (hn : n ≤ 1000000)
    (h : Q₁ (.ref s.heap.objs.size) { s with heap := s.heap.push { cls := .type "range_iterator", data := .fields #[rawInt ((n : Int) - 1), rawInt n, rawInt (-1)] } }) :
    codeAny (model prog w) A (.call (.builtin "reversed.__new__") ⟨[.type "reversed", .ref r], []⟩) (wants Q₁ E) s := by
  have hT : s.TypeIs (.ref r) "range" := ⟨_, hr, rfl⟩
  refine codeAny_of_tree ?_
  show wpAny _ A.in1 (do checkBuiltinCall "reversed.__new__" ⟨[.type "reversed", .ref r], []⟩; again (.builtin "reversed.__new__" ⟨[.type "reversed", .ref r], []⟩)) _ _ s
  refine wpAny_bind (wpAny_of_eq (PySem.F.newCall_reversed_1 _) (wpAny_pure ⟨plainId_quiet PySem.F.plain_reversed_new _, codeAny_builtin PySem.F.entry_reversed_new ?_⟩))
  rw [Around.under_plainId PySem.F.plain_reversed_new _]
  unfold Builtin.«reversed.__new__»
  refine wpAny_bind (wpAny_of_eq (newClass_reversed _) ?_)
  try dsimp only
  refine wpAny_bind (wpAny_of_eq (a := ()) (by first | rfl | kernel_rfl) ?_)
  refine wpAny_bind (wpAny_of_eq (a := ()) (by first | rfl | kernel_rfl) ?_)
  try dsimp only
  refine wpAny_bind (wpAny_specialOf hT PySem.F.slot_range_reversed.lookup ?_)
  try dsimp only
  refine wpAny_bind (wpAny_of_eq (PySem.F.slot_range_reversed.bind _) ?_)
  try dsimp only
  first
  | rw [if_neg (show ¬ ((Value.builtin "range.__reversed__" == Value.none) = true) from Bool.false_ne_true)]
  | (show wpAny _ _ (if (Value.builtin "range.__reversed__" == Value.none) = true then _ else _) _ _ _; rw [if_neg (show ¬ ((Value.builtin "range.__reversed__" == Value.none) = true) from Bool.false_ne_true)])
  refine wpAny_bind (wpAny_rule ?_)
  refine wpAny_bind (m := runValue (.call (.builtin "range.__reversed__") ⟨[.ref r], []⟩)) (show wpAny _ _ (call (.builtin "range.__reversed__") [.ref r]) _ _ _ from call_range_reversed hr hn ?_)
  first
  | exact wpAny_pure h
  | exact wpAny_bind (wpAny_pure (wpAny_pure h))
theorem call_reversed_range {r : Addr} {n : Nat} {t u v : Tok} {Q : Value → Shared → Prop} (hr : IsRange s.heap r 0 n 1 t u v) (hn : n ≤ 1000000)
    (h : Q (.ref s.heap.objs.size) { s with heap := s.heap.push { cls := .type "range_iterator", data := .fields #[rawInt ((n : Int) - 1), rawInt n, rawInt (-1)] } }) : wpAny (model prog w) A (call (.type "reversed") [.ref r]) Q E s := by
  refine callType_other (U := "range_iterator") (Q₁ := fun obj s₁ => obj = .ref s.heap.objs.size ∧ s₁ = { s with heap := s.heap.push { cls := .type "range_iterator", data := .fields #[rawInt ((n : Int) - 1), rawInt n, rawInt (-1)] } }) (by decide +kernel) PySem.F.create_reversed ⟨_, _, PySem.F.mro_reversed⟩ PySem.F.made_reversed sub_ri_reversed (PySem.F.typeCall_reversed_1 _) (code_reversed_range hr hn ⟨rfl, rfl⟩) ?_
  rintro obj s₁ ⟨rfl, rfl⟩
  exact ⟨⟨_, Heap.get?_push_size _ rfl, rfl⟩, h⟩
end

section
variable {c : Cx} {Z Y : Zone} {ρ : Vars} {σ : Sto} {s : Shared} {K : Fl → Vars → Sto → Prop} {pos p1 p2 p3 p4 : Pos}
/-- the things of range(n), backwards -/
def down (n : Nat) : List D := (List.range n).map fun (i : Nat) => D.int ((n : Int) - 1 - (i : Int))

/-- for x in reversed(range(e)) -/
theorem ex_forR (hk : c.Ok) {x : String} {px : Pos} {e : Expr} {body : List Stmt} (hx : Storable c x)
    (k1 : c.env.kindOf (Str.ofString "reversed") = some .globalImplicit) (n1 : nsIn c.K mainGlobals (Str.ofString "reversed") = some none)
    (k2 : c.env.kindOf (Str.ofString "range") = some .globalImplicit) (n2 : nsIn c.K mainGlobals (Str.ofString "range") = some none)
    (hs1 : starEach [.Call (.Name (Str.ofString "range") p2) [e] [] p3] c.env = [(false, eval (.Call (.Name (Str.ofString "range") p2) [e] [] p3) c.env)]) (hs2 : starEach [e] c.env = [(false, eval e c.env)])
    (h : Ev c ρ σ e fun v σ1 => E2 fun (n : Nat) (I : List D → Vars → Sto → Prop) => A5 (v = .d (.int n)) (n ≤ 1000000) (I [] ρ σ1) (∀ pre d post ρ σ, down n = pre ++ d :: post → I pre ρ σ → ∀ KB : Fl → Vars → Sto → Prop, (∀ f ρ' σ', Turn K (I (pre ++ [d])) f ρ' σ' → KB f ρ' σ') → Ex c (ρ.set x (.d d)) σ body KB) (∀ ρ σ, I (down n) ρ σ → K .next ρ σ)) :
    Ex1 c ρ σ (.For (.Name (Str.ofString x) px) (.Call (.Name (Str.ofString "reversed") p1) [.Call (.Name (Str.ofString "range") p2) [e] [] p3] [] p4) body [] pos) K := fun Z Y s Q X S q => by
  refine wpAny_For ?_ (fun _ => rfl)
  refine Call_Name rfl ?_
  refine ev_builtin (K := fun v σ' => v = .raw (.type "reversed") ∧ σ = σ') hk n1 (by first | rfl | decide) ⟨rfl, rfl⟩ k1 (by decide) (by decide) Z Y s _ X S fun Z0 u0 v0 σ0 s0 x0 r0 g0 S0 => ?_
  obtain ⟨rfl, rfl⟩ := g0
  cases r0
  refine callWith_type1 (wpAny_items_cons ?_ (by rw [hs1]; rfl)) (by rw [hs1]; rfl) rfl
  refine Call_Name rfl ?_
  refine ev_builtin (K := fun v σ' => v = .raw (.type "range") ∧ σ' = σ) hk n2 (by first | rfl | decide) ⟨rfl, rfl⟩ k2 (by decide) (by decide) Z0 Y s0 _ X S0 fun Z1 u1 v1 σ1 s1 x1 r1 g1 S1 => ?_
  obtain ⟨rfl, rfl⟩ := g1
  (first | cases r1 using Rv.intE | cases r1 using Rv.boolE | cases r1 using Rv.noneE | cases r1 using Rv.lstE | cases r1 using Rv.tupE | cases r1 using RVs.nilE | cases r1 using Rvs.nilE | cases r1)
  refine callWith_type1 (wpAny_items_cons (h Z1 Y s1 _ X S1 fun Z2 u v σ2 s2 x2 r2 h2 S2 => wpAny_items_nil ?_) (by rw [hs2]; rfl)) (by rw [hs2]; rfl) rfl
  refine hide fun P_ hP_ => ?_
  obtain ⟨n, I, rfl, hn, h0, turn, done⟩ := h2
  refine hP_ ?_
  clear hP_ P_
  (first | cases r2 using Rv.intE | cases r2 using Rv.boolE | cases r2 using Rv.noneE | cases r2 using Rv.lstE | cases r2 using Rv.tupE | cases r2 using RVs.nilE | cases r2 using Rvs.nilE | cases r2)
  rename_i t
  refine call_range_1 (wpAny_items_nil ?_)
  have S3 := S2.grow hk (tk := s2.toks + 1 + 1) (h' := s2.heap.push { cls := .type "range", data := .fields #[.int 0 s2.toks, .int n t, .int 1 (s2.toks + 1)] }) fun b o e => Heap.get?_push_of_some _ e
  refine call_reversed_range (IsRange.new ..) hn ?_
  have z1 : (s2.heap.push { cls := .type "range", data := .fields #[.int 0 s2.toks, .int n t, .int 1 (s2.toks + 1)] }).objs.size = s2.heap.objs.size + 1 := Heap.size_push ..
  have S4 := S3.grow hk (tk := s2.toks + 1 + 1) (h' := (s2.heap.push { cls := .type "range", data := .fields #[.int 0 s2.toks, .int n t, .int 1 (s2.toks + 1)] }).push { cls := .type "range_iterator", data := .fields #[rawInt ((n : Int) - 1), rawInt n, rawInt (-1)] }) fun b o e => Heap.get?_push_of_some _ e
  generalize hH : s2.heap.push { cls := .type "range", data := .fields #[.int 0 s2.toks, .int n t, .int 1 (s2.toks + 1)] } = H1 at S3 S4 z1 ⊢
  have hit : IsRangeIter (H1.push { cls := .type "range_iterator", data := .fields #[rawInt ((n : Int) - 1), rawInt n, rawInt (-1)] }) H1.objs.size ((n : Int) - 1) n (-1) := get_push rfl
  refine wpAny_pyIter_rangeiter (s := { s2 with heap := H1.push { cls := .type "range_iterator", data := .fields #[rawInt ((n : Int) - 1), rawInt n, rawInt (-1)] }, toks := s2.toks + 1 + 1 }) hit ?_
  have ap : Apart c Z2 Y σ2 H1.objs.size := Apart.fresh (s := { s2 with heap := H1, toks := s2.toks + 1 + 1 }) S3 (get_size _)
  have hdl : (down n).length = n := by simp [down]
  have src : Src c Z2 Y σ2 { s2 with heap := H1.push { cls := .type "range_iterator", data := .fields #[rawInt ((n : Int) - 1), rawInt n, rawInt (-1)] }, toks := s2.toks + 1 + 1 } H1.objs.size [H1.objs.size] n (fun i v => ∃ t, v = .int ((n : Int) - 1 + i * (-1)) t) := {
    fp := [H1.objs.size], wr := [H1.objs.size]
    Sw := fun i h => IsRangeIter h H1.objs.size ((n : Int) - 1 + (i : Nat) * (-1)) ((n : Int) - (i : Nat)) (-1)
    W := Walks.range hk.hand H1.objs.size ((n : Int) - 1) (-1) n
    zero := by simpa using hit
    sub := fun b hb => .inl hb
    wsub := fun b hb => hb
    live := fun i h st b hb => by
      rcases List.mem_cons.mp hb with rfl | hb
      · exact ⟨_, st⟩
      · cases hb
    apart := fun b hb => by
      rcases List.mem_cons.mp hb with rfl | hb
      · exact ap
      · cases hb
    ex := fun b hb => by
      rcases List.mem_cons.mp hb with rfl | hb
      · exact ⟨_, hit⟩
      · cases hb }
  exact for_core hk hdl hx S4 src (fun i v d hv hd => by
    obtain ⟨t', rfl⟩ := hv
    unfold down at hd
    rw [List.getElem?_map] at hd
    have hi : i < n := by
      rcases Nat.lt_or_ge i n with h | h
      · exact h
      · rw [List.getElem?_eq_none (by simpa using h)] at hd; simp at hd
    rw [List.getElem?_range hi] at hd
    simp only [Option.map_some, Option.some.injEq] at hd
    subst hd
    have e : (n : Int) - 1 + (i : Int) * (-1) = (n : Int) - 1 - i := by (first | lia | omega)
    rw [e]
    exact .int _ _) I (fun pre d post ρ σ h1 h2 => turn pre d post ρ σ h1 h2 _ fun _ _ _ x => x) done h0 fun Z' f g ρ' σ' s' x3 => q Z' f g ρ' σ' s' (((x0.trans x1).trans x2).trans x3)
end
end Mine
namespace Mine
open PySem.SeqAt Classical

/-- the frame of a call of the def at f -/
def fx (K : Frag) (prog : Program) (w : World) (r0 : Shared) (A : Around) (fd : FuncData) (L f : Addr) : Cx :=
  ⟨K, prog, w, A.deeper (callEnvC fd L f), callEnvC fd L f, L :: (callEnvC fd L f).cells.filterMap (fun p => (callEnvC fd L f).cells.lookup p.1), r0⟩

section
variable {Z Y : Zone} {σ : Sto} {s : Shared} {r0 : Shared}
def Inv (Z : Zone) (k : Str → Option NameKind) (m cm : Str → Option Value) (ρ : Vars) : Prop :=
  (∀ x v, ρ x = some v → k (Str.ofString x) = some .local → ∃ u, m (Str.ofString x) = some u ∧ RV Z u v) ∧
  (∀ x v, ρ x = some v → k (Str.ofString x) ≠ some .local → ∃ u, cm (Str.ofString x) = some u ∧ RV Z u v)
theorem inv_bind {k : Str → Option NameKind} : ∀ {xs : List String} {us : List Value} {vs : List V} {m cm : Str → Option Value} {ρ : Vars}, RVs Z us vs → Inv Z k m cm ρ → Inv Z k (bindL k ((xs.map Str.ofString).zip us) m) (bindC k ((xs.map Str.ofString).zip us) cm) (ρ.setAll xs vs)
  | [], us, vs, m, cm, ρ, r, h => by
    cases r <;> exact h
  | x :: xs, _, _, m, cm, ρ, .nil, h => by
    exact h
  | x :: xs, u :: us, v :: vs, m, cm, ρ, .cons r1 r2, h => by
    rw [List.map_cons, List.zip_cons_cons]
    unfold bindL bindC Vars.setAll
    refine inv_bind r2 ⟨fun y w e hy => ?_, fun y w e hy => ?_⟩
    · by_cases q : y = x
      · subst q
        simp only [Vars.set_self, Option.some.injEq] at e
        subst e
        refine ⟨u, ?_, r1⟩
        rw [if_pos hy]; simp
      · rw [Vars.set_ne _ _ q] at e
        refine hide fun P_ hP_ => ?_
        obtain ⟨u', e1, e2⟩ := h.1 y w e hy
        refine hP_ ?_
        clear hP_ P_
        refine ⟨u', ?_, e2⟩
        split
        · show (if _ then _ else _) = _
          rw [if_neg (fun z => q (ofString_inj z))]; exact e1
        · exact e1
    · by_cases q : y = x
      · subst q
        simp only [Vars.set_self, Option.some.injEq] at e
        subst e
        refine ⟨u, ?_, r1⟩
        rw [if_neg hy]; simp
      · rw [Vars.set_ne _ _ q] at e
        refine hide fun P_ hP_ => ?_
        obtain ⟨u', e1, e2⟩ := h.2 y w e hy
        refine hP_ ?_
        clear hP_ P_
        refine ⟨u', ?_, e2⟩
        split
        · exact e1
        · show (if _ then _ else _) = _
          rw [if_neg (fun z => q (ofString_inj z))]; exact e1
theorem setAll_mem : ∀ {xs : List String} {vs : List V} {ρ : Vars} {y : String} {v : V}, ρ.setAll xs vs y = some v → y ∈ xs ∨ ρ y = some v
  | [], _, ρ, y, v, h => .inr (by cases ‹List V› <;> exact h)
  | x :: xs, [], ρ, y, v, h => .inr h
  | x :: xs, w :: vs, ρ, y, v, h => by
    rcases setAll_mem (ρ := ρ.set x w) h with h1 | h1
    · exact .inl (.tail _ h1)
    · by_cases q : y = x
      · exact .inl (q ▸ .head _)
      · rw [Vars.set_ne _ _ q] at h1; exact .inr h1

def noVars : Vars := fun _ => none
def Fin (K : V → Sto → Prop) : Fl → Vars → Sto → Prop := fun f _ σ' => match f with | .ret v => K v σ' | .next => K (.d .none) σ' | _ => False

theorem cells_some {x : Str} : ∀ (n m : Nat) (l : List (Str × NameKind)) (acc bcc : List (Str × Addr)), ((acc.lookup x).isSome = (bcc.lookup x).isSome) → ((cellsFrom n l acc).lookup x).isSome = ((cellsFrom m l bcc).lookup x).isSome
  | n, m, [], acc, bcc, h => h
  | n, m, (y, k) :: r, acc, bcc, h => by
    unfold cellsFrom
    split
    · apply cells_some
      simp only [List.lookup_cons]
      split
      · rfl
      · exact h
    · exact cells_some _ _ _ _ _ h

theorem fn_enter {K0 : Frag} {prog : Program} {w : World} {dep un : Nat} {f : Addr} {as as' : List V} {K : V → Sto → Prop} {o : Obj} {fd : FuncData} {body : List Stmt} {xs : List String}
    (ho : K0.lookup f = some o) (hfd : o.data = .func fd) (hcd : codeIn K0 fd.code fd.qualname = true) (hbody : fd.body = .stmts body)
    (hbind : ∀ (s : Shared) (Z : Zone) (us : List Value), K0.In s.heap → RVs Z us as → ∃ us', A3 (RVs Z us' as') (us'.length = xs.length) (BindsTo s fd ⟨us, []⟩ ((xs.map Str.ofString).zip us')))
    (hkind : ∀ x ∈ xs, fd.scope.names.lookup (Str.ofString x) = some .local ∨ (fd.scope.names.lookup (Str.ofString x) = some .cell ∧ ((cellsFrom 0 fd.scope.names []).lookup (Str.ofString x)).isSome = true))
    (hclo : fd.closure = []) (hglob : fd.globals = mainGlobals) (hblt : fd.builtins = builtinsNs)
    (hco : fd.scope.isCoroutine = false) (hgen : fd.scope.isGenerator = false) (hk : fd.scope.kind = .function)
    (h : ∀ A L, (fx K0 prog w r0 A fd L f).Ok → (fx K0 prog w r0 A fd L f).Owner → (fx K0 prog w r0 A fd L f).A.depth + dep < recursionLimit → (fx K0 prog w r0 A fd L f).A.units + un < cLine →
      Ex (fx K0 prog w r0 A fd L f) (noVars.setAll xs as') σ body (Fin K)) :
    Fn K0 prog w r0 (dep + 1) (un + 3) f as σ K := by
  intro A Z Y s Q X us hh hd hu bs g r q
  refine hide fun P_ hP_ => ?_
  obtain ⟨us', r', hl', hb⟩ := hbind s Z us (fun a o e => g.keep a o (g.base a o (bs.K a o e))) r
  refine hP_ ?_
  clear hP_ P_
  have kIn : K0.In s.heap := fun a o e => g.keep a o (g.base a o (bs.K a o e))
  refine wpAny_call ?_
  refine codeAny_call_function (by (first | lia | omega)) (kIn _ _ ho) hfd hco hgen hbody (codeRec_of kIn hcd) (hb _ _ _ _ ?_)
  rw [hclo]
  refine wpAny_newFunctionEnv_cells hk (fun x hx => ?_) fun env he s₁ x => ?_
  · obtain ⟨y, hy, e⟩ : ∃ y ∈ xs, x.1 = Str.ofString y := by
      have h1 := (List.of_mem_zip (show (x.1, x.2) ∈ _ from hx)).1
      refine hide fun P_ hP_ => ?_
      obtain ⟨y, hy, e⟩ := List.mem_map.mp h1
      refine hP_ ?_
      clear hP_ P_
      exact ⟨y, hy, e.symm⟩
    rw [e]
    refine (hkind y hy).imp id fun ⟨h1, h2⟩ => ⟨h1, ?_⟩
    rw [cells_some (s.heap.objs.size + 1) 0 _ [] [] rfl]; exact h2
  · have he' : env = callEnvC fd s.heap.objs.size f := he
    subst he'
    have hlim : s₁.heap.NoLimit := by
      have h0 := bs.lim
      exact (h0.keeps fun a o e => g.keep a o (g.base a o e)).keeps x.toInCall.keep
    refine ⟨hlim, codeAny_func ?_⟩
    generalize hL : s.heap.objs.size = L at x
    have hk' : (fx K0 prog w r0 A fd L f).Ok := {
      bs := bs
      glob := hglob
      blt := hblt
      hand := hh
      L := .head _
      fn := hk
      inj := fun y z a h1 h2 => name_of_addr x.apart (mem_of_lookup h1) (mem_of_lookup h2)
      notL := fun y a h1 => Nat.ne_of_gt (x.above _ _ (mem_of_lookup h1)) }
    have hw : (fx K0 prog w r0 A fd L f).Owner := fun y a h1 => List.mem_cons_of_mem _ (List.mem_filterMap.mpr ⟨(y, a), mem_of_lookup h1, h1⟩)
    have gone : ∀ a, L ≤ a → Z a = none ∧ Y a = none ∧ σ a = none := fun a ha => g.fresh (Heap.get?_none_of_le (by rw [hL]; exact ha))
    have inv := inv_bind (Z := Z) (k := (callEnvC fd L f).kindOf) (xs := xs) (m := fun _ => none) (cm := fun _ => none) (ρ := noVars) r' ⟨fun y v (e : none = some v) => (nomatch e), fun y v (e : none = some v) => (nomatch e)⟩
    have S : St (fx K0 prog w r0 A fd L f) Z Y (noVars.setAll xs as') σ s₁ := by
      refine ⟨?_, ⟨_, x.toInCall.ns, inv.1⟩, fun y v e hy => ?_, fun y a e => ⟨⟨_, x.cell y a e⟩, .inl (hw y a e)⟩, fun a ha => ?_⟩
      · refine hide fun P_ hP_ => ?_
        obtain ⟨h', tk, e, kk⟩ := x.done
        refine hP_ ?_
        clear hP_ P_
        rw [e]; exact g.grow kk
      · refine hide fun P_ hP_ => ?_
        obtain ⟨u, e1, e2⟩ := inv.2 y v e hy
        refine hP_ ?_
        clear hP_ P_
        have hm : y ∈ xs := by
          rcases setAll_mem e with h1 | h1
          · exact h1
          · cases h1
        rcases hkind y hm with h1 | ⟨h1, h2⟩
        · exact absurd h1 hy
        · rw [← cells_some (L + 1) 0 _ [] [] rfl] at h2
          obtain ⟨a, ha⟩ := Option.isSome_iff_exists.mp h2
          exact ⟨a, u, ha, by have := x.cell (Str.ofString y) a ha; rw [e1] at this; exact this, e2⟩
      · have ha2 : L ≤ a ∧ ∃ o, s₁.heap.get? a = some o := by
          rcases List.mem_cons.mp ha with rfl | ha
          · refine hide fun P_ hP_ => ?_
            obtain ⟨o, _, _, e, _⟩ := x.toInCall.ns
            refine hP_ ?_
            clear hP_ P_
            exact ⟨Nat.le_refl _, o, e⟩
          · refine hide fun P_ hP_ => ?_
            obtain ⟨⟨n, a'⟩, hm, h1⟩ := List.mem_filterMap.mp ha
            refine hP_ ?_
            clear hP_ P_
            refine hide fun P_ hP_ => ?_
            obtain ⟨o, e, _⟩ := x.cell n a h1
            refine hP_ ?_
            clear hP_ P_
            exact ⟨Nat.le_of_lt (x.above n _ (mem_of_lookup h1)), o, e⟩
        refine hide fun P_ hP_ => ?_
        obtain ⟨g1, g2, g3⟩ := gone a ha2.1
        refine hP_ ?_
        clear hP_ P_
        exact ⟨g1, g2, g3, ha2.2⟩
    have hd' : (fx K0 prog w r0 A fd L f).A.depth + dep < recursionLimit := by
      show A.depth + 1 + dep < _; (first | lia | omega)
    have hu' : (fx K0 prog w r0 A fd L f).A.units + un < cLine := by
      show A.units + 3 + un < _; (first | lia | omega)
    refine h A L hk' hw hd' hu' Z Y s₁ _ _ S fun Z' fl gl ρ' σ' s' xx rr k S' => ?_
    cases rr with
    | next => exact q Z' _ _ σ' s' xx RV.none k S'.g
    | brk => exact k.elim
    | cont => exact k.elim
    | ret hr => exact q Z' _ _ σ' s' xx hr k S'.g
end
end Mine
namespace Mine
open PySem.SeqAt Classical

theorem kof {c : Cx} {sc : Scope} (h : c.env.scope = sc) {x : Str} {k : NameKind} (e : sc.names.lookup x = some k) : c.env.kindOf x = some k := by
  unfold Env.kindOf; rw [h]; exact e
theorem cof {c : Cx} {names : List (Str × NameKind)} (h : ∃ n, c.env.cells = cellsFrom n names []) {x : Str} (e : ((cellsFrom 0 names []).lookup x).isSome = true) : (c.env.cells.lookup x).isSome = true := by
  obtain ⟨n, h⟩ := h
  rw [h, cells_some n 0 _ [] [] rfl]; exact e
theorem inter {c : Cx} (hk : c.Ok) : interactive c.env = false := by unfold interactive; rw [hk.fn]; rfl
theorem nof {c : Cx} {K0 : Frag} (h : c.K = K0) {x : Str} {r : Option (Option Value)} (e : nsIn K0 mainGlobals x = r) : nsIn c.K mainGlobals x = r := by rw [h]; exact e
theorem lof {c : Cx} {K0 : Frag} (h : c.K = K0) {a : Addr} {o : Obj} (e : K0.lookup a = some o) : c.K.lookup a = some o := by rw [h]; exact e
theorem getD_mem {l : List D} {i : Nat} (h : i < l.length) : l.getD i .none ∈ l := by
  rw [List.getD_eq_getElem?_getD, List.getElem?_eq_getElem h]; exact List.getElem_mem h
theorem getD_get {l : List D} {i : Nat} (h : i < l.length) : l[i]? = some (l.getD i .none) := by simp [h]
theorem op_itemN {c : Cx} {ρ : Vars} {σ : Sto} {K : V → Sto → Prop} {l r : Expr} {a : V} {ds : List D} {i : Nat} (ha : Vw σ a (.lst ds)) (hi : i < ds.length) (hz : ds.length ≤ 1000000) (h : K (.d (ds.getD i .none)) σ)
    (hs : ∀ b t, subscripted r false (.ref b) (.int i t) = operate [.ref b, .int i t] (getItem (.ref b) (.int i t))) : Op2 c ρ σ (subscriptTail l r) a (.d (.int i)) K :=
  op_item ha (by (first | lia | omega)) (by (first | lia | omega)) (getD_get hi) h hs
theorem shr1 {n : Nat} (h : 0 < n) : ((n : Int) - 1).fdiv (2 ^ (1 : Int).toNat) = (((n - 1) / 2 : Nat) : Int) := by
  have e : (n : Int) - 1 = ((n - 1 : Nat) : Int) := by (first | lia | omega)
  rw [e, show (2 : Int) ^ (1 : Int).toNat = ((2 : Nat) : Int) from rfl, ← Int.ofNat_fdiv]
theorem dbl1 (n : Nat) : (2 : Int) * (n : Int) + 1 = ((2 * n + 1 : Nat) : Int) := by (first | lia | omega)
/-- if t: a, then the rest, met by one fact -/
theorem ex_if_join {c : Cx} {ρ : Vars} {σ : Sto} {K : Fl → Vars → Sto → Prop} {t : Expr} {a rest : List Stmt} {pos : Pos} (J : Vars → Sto → Prop)
    (h : Tst c ρ σ t fun r σ1 => if r = true then Ex c ρ σ1 a (fun f ρ' σ' => f = .next ∧ J ρ' σ') else J ρ σ1) (hr : ∀ ρ' σ', J ρ' σ' → Ex c ρ' σ' rest K) : Ex c ρ σ (.If t a [] pos :: rest) K := by
  refine ex_cons (ex_if (fun Z Y s Q X S q => h Z Y s Q X S fun Z1 b σ1 s1 x1 k1 S1 => q Z1 b σ1 s1 x1 ?_ S1))
  cases b with
  | true =>
    simp only [if_true] at k1 ⊢
    refine Sx.mono k1 fun f ρ' σ' => ?_
    rintro ⟨rfl, j⟩
    exact hr ρ' σ' j
  | false =>
    simp only [Bool.false_eq_true, if_false] at k1 ⊢
    exact ex_nil (hr ρ σ1 k1)
section
variable {K : Fl → Vars → Sto → Prop} {J : Vars → Sto → Prop} {ρ : Vars} {σ : Sto} {v : V} {K' : V → Sto → Prop}
theorem turn_next (h : J ρ σ) : Turn K J .next ρ σ := h
theorem turn_cont (h : J ρ σ) : Turn K J .cont ρ σ := h
theorem turn_brk (h : K .next ρ σ) : Turn K J .brk ρ σ := h
theorem turn_ret (h : K (.ret v) ρ σ) : Turn K J (.ret v) ρ σ := h
theorem fin_ret (h : K' v σ) : Fin K' (.ret v) ρ σ := h
theorem fin_next (h : K' (.d .none) σ) : Fin K' .next ρ σ := h
end
theorem ite_nf {a b : Prop} (h : a) : if (!false) = true then a else b := by simpa using h
theorem ite_nt {a b : Prop} (h : b) : if (!true) = true then a else b := by simpa using h
theorem ite_yes {a b : Prop} {p : Prop} {i : Decidable p} (hp : p) (h : a) : if decide p = true then a else b := by rw [if_pos (by rw [decide_eq_true_eq]; exact hp)]; exact h
theorem ite_no {a b : Prop} {p : Prop} {i : Decidable p} (hp : ¬p) (h : b) : if decide p = true then a else b := by rw [if_neg (by rw [decide_eq_true_eq]; exact hp)]; exact h
/-- what a walk of a def's body has at hand -/
structure Wk (K0 : Frag) (prog : Program) (w : World) (r0 : Shared) (sc : Scope) (dep un : Nat) (c : Cx) : Prop where
  k : c.K = K0
  p : c.prog = prog
  w : c.w = w
  r : c.r0 = r0
  s : c.env.scope = sc
  ok : c.Ok
  d : c.A.depth + dep < recursionLimit
  u : c.A.units + un < cLine

theorem fn_go {K0 : Frag} {prog : Program} {w : World} {r0 : Shared} {dep un : Nat} {f : Addr} {σ : Sto} {as as' : List V} {K : V → Sto → Prop} {o : Obj} {fd : FuncData} {body : List Stmt} {xs : List String} {sc : Scope}
    (ho : K0.lookup f = some o) (hfd : o.data = .func fd) (hcd : codeIn K0 fd.code fd.qualname = true) (hbody : fd.body = .stmts body) (hsc : fd.scope = sc)
    (hbind : ∀ (s : Shared) (Z : Zone) (us : List Value), K0.In s.heap → RVs Z us as → ∃ us', A3 (RVs Z us' as') (us'.length = xs.length) (BindsTo s fd ⟨us, []⟩ ((xs.map Str.ofString).zip us')))
    (hkind : ∀ x ∈ xs, sc.names.lookup (Str.ofString x) = some .local ∨ (sc.names.lookup (Str.ofString x) = some .cell ∧ ((cellsFrom 0 sc.names []).lookup (Str.ofString x)).isSome = true))
    (hclo : fd.closure = []) (hglob : fd.globals = mainGlobals) (hblt : fd.builtins = builtinsNs)
    (hco : sc.isCoroutine = false) (hgen : sc.isGenerator = false) (hk : sc.kind = .function)
    (h : ∀ c : Cx, Wk K0 prog w r0 sc dep un c → (∃ n, c.env.cells = cellsFrom n sc.names []) → c.Owner → Ex c (noVars.setAll xs as') σ body (Fin K)) :
    Fn K0 prog w r0 (dep + 1) (un + 3) f as σ K := by
  subst hsc
  exact fn_enter ho hfd hcd hbody hbind hkind hclo hglob hblt hco hgen hk fun A L h1 h2 h3 h4 => h _ ⟨rfl, rfl, rfl, rfl, rfl, h1, h3, h4⟩ ⟨L + 1, rfl⟩ h2

theorem bind1 {fd : FuncData} {a : V} {x : String} (h : ∀ u, bindArgs fd ⟨[u], []⟩ = pure [(Str.ofString x, u)]) (K0 : Frag) :
    ∀ (s : Shared) (Z : Zone) (us : List Value), K0.In s.heap → RVs Z us [a] → ∃ us', A3 (RVs Z us' [a]) (us'.length = [x].length) (BindsTo s fd ⟨us, []⟩ (([x].map Str.ofString).zip us')) := fun s Z us _ r => by
  refine hide fun P_ hP_ => ?_
  obtain ⟨u, rfl, h1⟩ := rvs1 r
  refine hP_ ?_
  clear hP_ P_
  exact ⟨[u], .cons h1 .nil, rfl, .of_eq (h u)⟩
theorem bind0 {fd : FuncData} (h : bindArgs fd ⟨[], []⟩ = pure []) (K0 : Frag) :
    ∀ (s : Shared) (Z : Zone) (us : List Value), K0.In s.heap → RVs Z us [] → ∃ us', A3 (RVs Z us' []) (us'.length = ([] : List String).length) (BindsTo s fd ⟨us, []⟩ ((([] : List String).map Str.ofString).zip us')) := fun s Z us _ r => by
  (first | cases r using Rv.intE | cases r using Rv.boolE | cases r using Rv.noneE | cases r using Rv.lstE | cases r using Rv.tupE | cases r using RVs.nilE | cases r using Rvs.nilE | cases r)
  exact ⟨[], .nil, rfl, .of_eq h⟩
theorem bind2 {fd : FuncData} {a b : V} {x y : String} (h : ∀ u v, bindArgs fd ⟨[u, v], []⟩ = pure [(Str.ofString x, u), (Str.ofString y, v)]) (K0 : Frag) :
    ∀ (s : Shared) (Z : Zone) (us : List Value), K0.In s.heap → RVs Z us [a, b] → ∃ us', A3 (RVs Z us' [a, b]) (us'.length = [x, y].length) (BindsTo s fd ⟨us, []⟩ (([x, y].map Str.ofString).zip us')) := fun s Z us _ r => by
  refine hide fun P_ hP_ => ?_
  obtain ⟨u, v, rfl, h1, h2⟩ := rvs2 r
  refine hP_ ?_
  clear hP_ P_
  exact ⟨[u, v], .cons h1 (.cons h2 .nil), rfl, .of_eq (h u v)⟩
theorem rvs3 {Z : Zone} {us : List Value} {v w z : V} (r : RVs Z us [v, w, z]) : E3 fun ua ub uc => A4 (us = [ua, ub, uc]) (RV Z ua v) (RV Z ub w) (RV Z uc z) := by
  cases r using RVs.consE with
  | cons ra r1 => obtain ⟨ub, uc, rfl, rb, rc⟩ := rvs2 r1; exact ⟨_, _, _, rfl, ra, rb, rc⟩
theorem bind3 {fd : FuncData} {a b d : V} {x y z : String} (h : ∀ u v w, bindArgs fd ⟨[u, v, w], []⟩ = pure [(Str.ofString x, u), (Str.ofString y, v), (Str.ofString z, w)]) (K0 : Frag) :
    ∀ (s : Shared) (Z : Zone) (us : List Value), K0.In s.heap → RVs Z us [a, b, d] → ∃ us', A3 (RVs Z us' [a, b, d]) (us'.length = [x, y, z].length) (BindsTo s fd ⟨us, []⟩ (([x, y, z].map Str.ofString).zip us')) := fun s Z us _ r => by
  refine hide fun P_ hP_ => ?_
  obtain ⟨u, v, w, rfl, h1, h2, h3⟩ := rvs3 r
  refine hP_ ?_
  clear hP_ P_
  exact ⟨[u, v, w], .cons h1 (.cons h2 (.cons h3 .nil)), rfl, .of_eq (h u v w)⟩

theorem Wk.fn {K0 : Frag} {prog : Program} {w : World} {r0 : Shared} {sc : Scope} {dep un dep' un' : Nat} {c : Cx} {ρ : Vars} {σ : Sto} {K : V → Sto → Prop} (W : Wk K0 prog w r0 sc dep un c) {f : Addr} {as : List V} (h : Fn K0 prog w r0 dep' un' f as σ K) (hd : dep' ≤ dep) (hu : un' ≤ un) : Cl c ρ σ (.ref f) as K := by
  refine hide fun P_ hP_ => ?_
  obtain ⟨rfl, rfl, rfl, rfl, -, ok, d, u⟩ := W
  refine hP_ ?_
  clear hP_ P_
  exact cl_fn ok h (by (first | lia | omega)) (by (first | lia | omega))

section
variable {K0 : Frag} {prog : Program} {w : World} {r0 : Shared} {sc : Scope} {dep un : Nat} {c : Cx} {ρ : Vars} {σ : Sto} {K : V → Sto → Prop} {p1 pos : Pos} {x : Str}
theorem wk_call (W : Wk K0 prog w r0 sc dep un c) {f : Addr} {o : Obj} {fd : FuncData} {e : Expr} {es : List Expr} (hn : nsIn K0 mainGlobals x = some (some (.ref f))) (ho : K0.lookup f = some o) (hd : o.data = .func fd) (hkd : sc.names.lookup x = some .globalImplicit) (hdb : (x == ("__debug__" : Str)) = false)
    (he : starEach (e :: es) c.env = (false, eval e c.env) :: starEach es c.env) (h : Evs c ρ σ pos (e :: es) fun as σ2 => Cl c ρ σ2 (.ref f) as K) : Ev c ρ σ (.Call (.Name x p1) (e :: es) [] pos) K :=
  ev_call_fn W.ok (lof W.k ho) hd (ev_global W.ok (nof W.k hn) ⟨rfl, h⟩ (kof W.s hkd) hdb) he
theorem wk_call0 (W : Wk K0 prog w r0 sc dep un c) {f : Addr} {o : Obj} {fd : FuncData} (hn : nsIn K0 mainGlobals x = some (some (.ref f))) (ho : K0.lookup f = some o) (hd : o.data = .func fd) (hkd : sc.names.lookup x = some .globalImplicit) (hdb : (x == ("__debug__" : Str)) = false)
    (h : Cl c ρ σ (.ref f) [] K) : Ev c ρ σ (.Call (.Name x p1) [] [] pos) K :=
  ev_call_fn0 W.ok (lof W.k ho) hd (ev_global W.ok (nof W.k hn) ⟨rfl, h⟩ (kof W.s hkd) hdb)
theorem wk_bi (W : Wk K0 prog w r0 sc dep un c) {id : String} {e : Expr} {es : List Expr} (hn : nsIn K0 mainGlobals x = some none) (hv : bootBuiltins x = some (.builtin id)) (hkd : sc.names.lookup x = some .globalImplicit) (hnn : x ≠ "__name__") (hdb : (x == ("__debug__" : Str)) = false)
    (he : starEach (e :: es) c.env = (false, eval e c.env) :: starEach es c.env) (hp : (backTo pos (starEach es c.env)).any (·.1) = false) (h : Evs c ρ σ pos (e :: es) fun as σ2 => Cl c ρ σ2 (.builtin id) as K) : Ev c ρ σ (.Call (.Name x p1) (e :: es) [] pos) K :=
  ev_call_bi (ev_builtin W.ok (nof W.k hn) hv ⟨rfl, h⟩ (kof W.s hkd) hnn hdb) he hp
theorem wk_ty (W : Wk K0 prog w r0 sc dep un c) {T : String} {e : Expr} {es : List Expr} (hn : nsIn K0 mainGlobals x = some none) (hv : bootBuiltins x = some (.type T)) (hkd : sc.names.lookup x = some .globalImplicit) (hnn : x ≠ "__name__") (hdb : (x == ("__debug__" : Str)) = false)
    (he : starEach (e :: es) c.env = (false, eval e c.env) :: starEach es c.env) (hp : (backTo pos (starEach es c.env)).any (·.1) = false) (h : Evs c ρ σ pos (e :: es) fun as σ2 => Cl c ρ σ2 (.type T) as K) : Ev c ρ σ (.Call (.Name x p1) (e :: es) [] pos) K :=
  ev_call_ty (ev_builtin W.ok (nof W.k hn) hv ⟨rfl, h⟩ (kof W.s hkd) hnn hdb) he hp
end

/-! ### siftdown, on data -/
theorem half_lt {p s : Nat} (h : s < p) : (p - 1) / 2 < p := by (first | lia | omega)
/-- the loop of _siftdown: lt says which of new item and parent stays above -/
noncomputable def sdn (lt : D → D → Bool) (x : D) (start pos : Nat) (l : List D) : List D :=
  if h : start < pos then
    if lt x (l.getD ((pos - 1) / 2) .none) then sdn lt x start ((pos - 1) / 2) (l.set pos (l.getD ((pos - 1) / 2) .none)) else l.set pos x
  else l.set pos x
termination_by pos
decreasing_by exact half_lt h
theorem sdn_length (lt : D → D → Bool) (x : D) (start pos : Nat) (l : List D) : (sdn lt x start pos l).length = l.length := by
  induction pos using Nat.strongRecOn generalizing l with
  | _ pos ih =>
    rw [sdn]
    split
    · rename_i h
      split
      · rw [ih _ (half_lt h)]; simp
      · simp
    · simp
noncomputable def sift (lt : D → D → Bool) (start pos : Nat) (l : List D) : List D := sdn lt (l.getD pos .none) start pos l

/-- the loop of _siftup: the way down to a leaf -/
noncomputable def supC (lt : D → D → Bool) (endpos pos : Nat) (l : List D) : Nat :=
  if 2 * pos + 2 < endpos ∧ lt (l.getD (2 * pos + 1) .none) (l.getD (2 * pos + 2) .none) = false then 2 * pos + 2 else 2 * pos + 1
theorem supC_lt (lt : D → D → Bool) {endpos pos : Nat} (l : List D) (h : 2 * pos + 1 < endpos) : pos < supC lt endpos pos l ∧ supC lt endpos pos l < endpos := by
  unfold supC
  split
  · rename_i h2; (first | lia | omega)
  · (first | lia | omega)
noncomputable def sup (lt : D → D → Bool) (endpos pos : Nat) (l : List D) : Nat × List D :=
  if h : 2 * pos + 1 < endpos then sup lt endpos (supC lt endpos pos l) (l.set pos (l.getD (supC lt endpos pos l) .none)) else (pos, l)
termination_by endpos - pos
decreasing_by have := supC_lt lt l h; (first | lia | omega)
theorem sup_length (lt : D → D → Bool) (endpos : Nat) : ∀ (n pos : Nat) (l : List D), endpos - pos = n → (sup lt endpos pos l).2.length = l.length := by
  intro n
  induction n using Nat.strongRecOn with
  | _ n ih =>
    intro pos l hn
    rw [sup]
    split
    · rename_i h
      have := supC_lt lt l h
      rw [ih (endpos - supC lt endpos pos l) (by lia) _ _ rfl, List.length_set]
    · rfl
theorem sup_bound (lt : D → D → Bool) (endpos : Nat) : ∀ (n pos : Nat) (l : List D), endpos - pos = n → pos < endpos → (sup lt endpos pos l).1 < endpos := by
  intro n
  induction n using Nat.strongRecOn with
  | _ n ih =>
    intro pos l hn hp
    rw [sup]
    split
    · rename_i h
      have := supC_lt lt l h
      exact ih (endpos - supC lt endpos pos l) (by lia) _ _ rfl this.2
    · exact hp
noncomputable def siftup (lt : D → D → Bool) (pos : Nat) (l : List D) : List D :=
  sift lt pos (sup lt l.length pos l).1 ((sup lt l.length pos l).2.set (sup lt l.length pos l).1 (l.getD pos .none))
theorem siftup_length (lt : D → D → Bool) (pos : Nat) (l : List D) : (siftup lt pos l).length = l.length := by
  unfold siftup sift
  rw [sdn_length, List.length_set, sup_length _ _ _ _ _ rfl]
noncomputable def hpush (lt : D → D → Bool) (l : List D) (x : D) : List D := sift lt 0 l.length (l ++ [x])
noncomputable def hrep (lt : D → D → Bool) (l : List D) (x : D) : List D := siftup lt 0 (l.set 0 x)
noncomputable def hfy (lt : D → D → Bool) : Nat → List D → List D
  | 0, l => l
  | k + 1, l => hfy lt k (siftup lt k l)
/-- heappop on a list that ends in x -/
noncomputable def hpop (lt : D → D → Bool) (l : List D) (x : D) : D × List D :=
  if l = [] then (x, []) else (l.getD 0 .none, siftup lt 0 (l.set 0 x))
theorem getD_set_self {l : List D} {i : Nat} {x : D} (h : i < l.length) : (l.set i x).getD i .none = x := by simp [h]
theorem mem_set_of {P : D → Prop} {l : List D} {i : Nat} {x : D} (h : ∀ d ∈ l, P d) (hx : P x) : ∀ d ∈ l.set i x, P d := fun d hd => by
  rcases List.mem_or_eq_of_mem_set hd with hd | rfl
  · exact h _ hd
  · exact hx

noncomputable def gtD (a b : D) : Bool := D.lt b a

/-! ### comprehensions in a walk -/
theorem seen_eq {cl : List (Str × Addr)} {ρ : Vars} {y : String} (h : (cl.lookup (Str.ofString y)).isSome = true) : seen cl ρ y = ρ y := by
  unfold seen; rw [if_pos h]
theorem Wk.kid {K0 : Frag} {prog : Program} {w : World} {r0 : Shared} {sc sc' : Scope} {dep un : Nat} {c : Cx} {scope : Scope} {cl : List (Str × Addr)} {C : Addr} (W : Wk K0 prog w r0 sc dep un c) (ok : (cc c scope cl C).Ok) (hrel : relabel scope c.env = sc') : Wk K0 prog w r0 sc' dep un (cc c scope cl C) :=
  ⟨W.k, W.p, W.w, W.r, hrel, ok, W.d, W.u⟩
theorem cellOf_eq {env : Env} {x : Str} {a : Addr} (h : env.cells.lookup x = some a) : cellOf env x = pure a := by unfold cellOf; rw [h]
theorem clos0 {c : Cx} {scope : Scope} (h : closureFor scope c.env = pure []) (h2 : ∀ y ∈ scope.names, y.2 ≠ .cell) (h3 : scope.kind = .function) (h4 : ∀ y ∈ scope.names, y.2 = .local → scope.names.lookup y.1 = some .local) : Clos c scope [] :=
  ⟨h, fun y a e => by simp at e, fun y e => by simp at e, fun y e => by simp at e, h2, h3, h4⟩
theorem clos1 {c : Cx} {scope : Scope} {x : Str} {a : Addr} (ha : c.env.cells.lookup x = some a) (h : closureFor scope c.env = pure [(x, a)]) (hx : scope.names.lookup x ≠ some .local) (hp : c.env.kindOf x ≠ some .local)
    (h2 : ∀ y ∈ scope.names, y.2 ≠ .cell) (h3 : scope.kind = .function) (h4 : ∀ y ∈ scope.names, y.2 = .local → scope.names.lookup y.1 = some .local) : Clos c scope [(x, a)] := by
  have one : ∀ y, ([(x, a)].lookup y).isSome → y = x := fun y e => by
    simp only [List.lookup_cons] at e
    cases q : y == x with
    | true => exact beq_iff_eq.mp q
    | false => rw [q] at e; simp at e
  refine ⟨h, fun y b e => ?_, fun y e => by rw [one y e]; exact hx, fun y e => by rw [one y e]; exact hp, h2, h3, h4⟩
  have hy := one y (by rw [e]; rfl)
  subst hy
  simp at e
  rw [← e]; exact ha
theorem clos2 {c : Cx} {scope : Scope} {x y : Str} {a b : Addr} (hxy : (x == y) = false) (ha : c.env.cells.lookup x = some a) (hb : c.env.cells.lookup y = some b) (h : closureFor scope c.env = pure [(y, b), (x, a)]) (hx : scope.names.lookup x ≠ some .local) (hy : scope.names.lookup y ≠ some .local) (hp : c.env.kindOf x ≠ some .local) (hp' : c.env.kindOf y ≠ some .local)
    (h2 : ∀ y ∈ scope.names, y.2 ≠ .cell) (h3 : scope.kind = .function) (h4 : ∀ y ∈ scope.names, y.2 = .local → scope.names.lookup y.1 = some .local) : Clos c scope [(y, b), (x, a)] := by
  have one : ∀ z, ([(y, b), (x, a)].lookup z).isSome → z = x ∨ z = y := fun z e => by
    simp only [List.lookup_cons] at e
    cases q : z == y with
    | true => exact .inr (beq_iff_eq.mp q)
    | false =>
      rw [q] at e
      cases q2 : z == x with
      | true => exact .inl (beq_iff_eq.mp q2)
      | false => rw [q2] at e; simp at e
  refine ⟨h, fun z d e => ?_, fun z e => by rcases one z e with rfl | rfl <;> assumption, fun z e => by rcases one z e with rfl | rfl <;> assumption, h2, h3, h4⟩
  rcases one z (by rw [e]; rfl) with rfl | rfl
  · simp only [List.lookup_cons, hxy, beq_self_eq_true] at e
    cases e; exact ha
  · simp at e
    rw [← e]; exact hb
end Mine
namespace Mine
set_option maxRecDepth 100000
set_option maxHeartbeats 8000000
abbrev pw : Program := PySem.Challenge.rw_ir0005_01.row.prog
noncomputable abbrev kd (P : Params) (x : String) (n : Nat) (v : Value) : DictEntry := { hash := PyData.keyHash P (Str.ofString x), key := .str (Str.ofString x) n, val := v }
abbrev vs (x : String) (n : Nat) : Value := .str (Str.ofString x) n
abbrev tu (l : List Value) : Obj := { cls := .type "tuple", data := .seq ⟨l⟩ }
abbrev fl (l : List Value) : Obj := { cls := .none, data := .fields ⟨l⟩ }
abbrev co (n : String) (t line na r8 r11 : Nat) (v w : Value) (r15 i : Nat) : Obj :=
  { cls := .type "code", data := .fields #[vs n t, vs n (t + 1), vs "/claim/cut.py" (t + 2), .int line 0, .int na 0, .int 0 0, .int 0 0, .int 3 0, .ref r8, .bool true, .int 181 0, .ref r11, .none, v, w, .ref r15, .int i 0, .int line 0, vs "/claim/cut.py" (i + 1)] }
abbrev fo (n : String) (cd : Nat) (m : String) (mt : Nat) (dv : Value) {a : Arguments} {b : List Stmt} {s : Scope} (_ : pw.theDef (Str.ofString n) = some (a, b, s)) : Obj :=
  { cls := .type "function", data := .func { name := Str.ofString n, qualname := Str.ofString n, params := a, body := .stmts b, scope := s, globals := 3, closure := [], defaults := dv, kwdefaults := .none, pyModule := vs m mt, code := .ref cd } }
abbrev dc (o : Obj) : Obj := { cls := .none, data := match o.data with | .func f => .func { name := f.name, qualname := f.name, params := f.params, body := f.body, scope := f.scope, globals := 0, closure := [], defaults := .none, kwdefaults := .none } | x => x }
noncomputable def heapK : Params → Frag := fun P => [
  (3, ⟨.type "dict", Option.none, .dict #[kd P "__name__" 165 (vs "law_ir0005_01" 304),
    kd P "__doc__" 166 .none,
    kd P "__package__" 167 .none,
    kd P "__loader__" 168 (.builtin "__main__.__loader__#opaque"),
    kd P "__spec__" 169 .none,
    kd P "__annotations__" 170 (.ref 6),
    kd P "__builtins__" 171 (.ref 4),
    kd P "__file__" 173 (vs "/claim/cut.py" 172),
    kd P "__cached__" 174 .none,
    kd P "heappush" 196 (.ref 21),
    kd P "heappop" 205 (.ref 28),
    kd P "heapreplace" 214 (.ref 35),
    kd P "heapify" 223 (.ref 42),
    kd P "_heapreplace_max" 232 (.ref 49),
    kd P "_heapify_max" 241 (.ref 56),
    kd P "_siftdown" 253 (.ref 63),
    kd P "_siftup" 266 (.ref 70),
    kd P "_siftdown_max" 278 (.ref 77),
    kd P "_siftup_max" 291 (.ref 84),
    kd P "nsmallest" 297 (.ref 90),
    kd P "nlargest" 303 (.ref 96),
    kd P "OWN" 311 (.ref 103),
    kd P "_law_ties" 325 (.ref 110),
    kd P "_law_grown" 331 (.ref 115),
    kd P "_law_side" 344 (.ref 122),
    kd P "_law_choices" 350 (.ref 127),
    kd P "_law_trees" 356 (.ref 132),
    kd P "_law_worth" 362 (.ref 137),
    kd P "_law_exchanges" 368 (.ref 142),
    kd P "_law_led" 374 (.ref 147),
    kd P "law" 380 (.ref 152)] 31, #[]⟩),
  (20, co "heappush" 189 2 2 15 16 (.ref 17) (.ref 18) 19 194),
  (21, fo "heappush" 20 "cpy313.heapq" 187 .none (by rfl)),
  (27, co "heappop" 197 5 1 22 23 (.ref 24) (.ref 25) 26 203),
  (28, fo "heappop" 27 "cpy313.heapq" 187 .none (by rfl)),
  (34, co "heapreplace" 206 13 2 29 30 (.ref 31) (.ref 32) 33 212),
  (35, fo "heapreplace" 34 "cpy313.heapq" 187 .none (by rfl)),
  (41, co "heapify" 215 18 1 36 37 (.ref 38) (.ref 39) 40 221),
  (42, fo "heapify" 41 "cpy313.heapq" 187 .none (by rfl)),
  (48, co "_heapreplace_max" 224 22 2 43 44 (.ref 45) (.ref 46) 47 230),
  (49, fo "_heapreplace_max" 48 "cpy313.heapq" 187 .none (by rfl)),
  (55, co "_heapify_max" 233 27 1 50 51 (.ref 52) (.ref 53) 54 239),
  (56, fo "_heapify_max" 55 "cpy313.heapq" 187 .none (by rfl)),
  (62, co "_siftdown" 242 31 3 57 58 (.ref 59) (.ref 60) 61 251),
  (63, fo "_siftdown" 62 "cpy313.heapq" 187 .none (by rfl)),
  (69, co "_siftup" 254 42 2 64 65 (.ref 66) (.ref 67) 68 264),
  (70, fo "_siftup" 69 "cpy313.heapq" 187 .none (by rfl)),
  (76, co "_siftdown_max" 267 56 3 71 72 (.ref 73) (.ref 74) 75 276),
  (77, fo "_siftdown_max" 76 "cpy313.heapq" 187 .none (by rfl)),
  (83, co "_siftup_max" 279 67 2 78 79 (.ref 80) (.ref 81) 82 289),
  (84, fo "_siftup_max" 83 "cpy313.heapq" 187 .none (by rfl)),
  (85, tu [.none]),
  (89, co "nsmallest" 292 81 3 86 87 .none .none 88 295),
  (90, fo "nsmallest" 89 "cpy313.heapq" 187 (.ref 85) (by rfl)),
  (91, tu [.none]),
  (95, co "nlargest" 298 126 3 92 93 .none .none 94 301),
  (96, fo "nlargest" 95 "cpy313.heapq" 187 (.ref 91) (by rfl)),
  (102, co "OWN" 306 172 0 97 98 (.ref 99) (.ref 100) 101 309),
  (103, fo "OWN" 102 "law_ir0005_01" 304 .none (by rfl)),
  (109, co "_law_ties" 312 174 1 104 105 (.ref 106) (.ref 107) 108 323),
  (110, fo "_law_ties" 109 "law_ir0005_01" 304 .none (by rfl)),
  (114, co "_law_grown" 326 184 2 111 112 .none .none 113 329),
  (115, fo "_law_grown" 114 "law_ir0005_01" 304 .none (by rfl)),
  (121, co "_law_side" 332 198 2 116 117 (.ref 118) (.ref 119) 120 342),
  (122, fo "_law_side" 121 "law_ir0005_01" 304 .none (by rfl)),
  (126, co "_law_choices" 345 207 2 123 124 .none .none 125 348),
  (127, fo "_law_choices" 126 "law_ir0005_01" 304 .none (by rfl)),
  (131, co "_law_trees" 351 212 1 128 129 .none .none 130 354),
  (132, fo "_law_trees" 131 "law_ir0005_01" 304 .none (by rfl)),
  (136, co "_law_worth" 357 214 1 133 134 .none .none 135 360),
  (137, fo "_law_worth" 136 "law_ir0005_01" 304 .none (by rfl)),
  (141, co "_law_exchanges" 363 216 2 138 139 .none .none 140 366),
  (142, fo "_law_exchanges" 141 "law_ir0005_01" 304 .none (by rfl)),
  (146, co "_law_led" 369 226 2 143 144 .none .none 145 372),
  (147, fo "_law_led" 146 "law_ir0005_01" 304 .none (by rfl)),
  (151, co "law" 375 228 1 148 149 .none .none 150 378),
  (152, fo "law" 151 "law_ir0005_01" 304 .none (by rfl))]
def atK : List Addr := [3, 20, 21, 27, 28, 34, 35, 41, 42, 48, 49, 55, 56, 62, 63, 69, 70, 76, 77, 83, 84, 85, 89, 90, 91, 95, 96, 102, 103, 109, 110, 114, 115, 121, 122, 126, 127, 131, 132, 136, 137, 141, 142, 146, 147, 151, 152]
theorem atK_eq (P : Params) : atK = (heapK P).map (·.1) := by rfl
noncomputable abbrev hookK : Hook := kHook heapK atK atK_eq
def vw : Program := { pw with main := { pw.main with body := pw.main.body.drop 23 } }
abbrev loose : List Str := [Str.ofString "heappush", Str.ofString "heappop", Str.ofString "heapreplace", Str.ofString "heapify", Str.ofString "_heapreplace_max", Str.ofString "_heapify_max", Str.ofString "_siftdown", Str.ofString "_siftup", Str.ofString "_siftdown_max", Str.ofString "_siftup_max", Str.ofString "nsmallest", Str.ofString "nlargest", Str.ofString "OWN", Str.ofString "_law_ties", Str.ofString "_law_grown", Str.ofString "_law_side", Str.ofString "_law_choices", Str.ofString "_law_trees", Str.ofString "_law_worth", Str.ofString "_law_exchanges", Str.ofString "_law_led"]
noncomputable def dE (P : Params) : List DictEntry := [kd P "__name__" 165 (vs "law_ir0005_01" 304),
    kd P "__doc__" 166 .none,
    kd P "__package__" 167 .none,
    kd P "__loader__" 168 (.builtin "__main__.__loader__#opaque"),
    kd P "__spec__" 169 .none,
    kd P "__annotations__" 170 (.ref 6),
    kd P "__builtins__" 171 (.ref 4),
    kd P "__file__" 173 (vs "/claim/cut.py" 172),
    kd P "__cached__" 174 .none,
    kd P "heappush" 196 (.ref 21),
    kd P "heappop" 205 (.ref 28),
    kd P "heapreplace" 214 (.ref 35),
    kd P "heapify" 223 (.ref 42),
    kd P "_heapreplace_max" 232 (.ref 49),
    kd P "_heapify_max" 241 (.ref 56),
    kd P "_siftdown" 253 (.ref 63),
    kd P "_siftup" 266 (.ref 70),
    kd P "_siftdown_max" 278 (.ref 77),
    kd P "_siftup_max" 291 (.ref 84),
    kd P "nsmallest" 297 (.ref 90),
    kd P "nlargest" 303 (.ref 96),
    kd P "OWN" 311 (.ref 103),
    kd P "_law_ties" 325 (.ref 110),
    kd P "_law_grown" 331 (.ref 115),
    kd P "_law_side" 344 (.ref 122),
    kd P "_law_choices" 350 (.ref 127),
    kd P "_law_trees" 356 (.ref 132),
    kd P "_law_worth" 362 (.ref 137),
    kd P "_law_exchanges" 368 (.ref 142),
    kd P "_law_led" 374 (.ref 147),
    kd P "law" 380 (.ref 152)]
def tabE : List Value := [(.int 2 0), (.int 0 0), (.ref 20), (.int 5 0), (.int 0 0), (.ref 27), (.int 13 0), (.int 0 0), (.ref 34), (.int 18 0), (.int 0 0), (.ref 41), (.int 22 0), (.int 0 0), (.ref 48), (.int 27 0), (.int 0 0), (.ref 55), (.int 31 0), (.int 0 0), (.ref 62), (.int 42 0), (.int 0 0), (.ref 69), (.int 56 0), (.int 0 0), (.ref 76), (.int 67 0), (.int 0 0), (.ref 83), (.int 81 0), (.int 0 0), (.ref 89), (.int 126 0), (.int 0 0), (.ref 95), (.int 172 0), (.int 0 0), (.ref 102), (.int 174 0), (.int 0 0), (.ref 109), (.int 184 0), (.int 0 0), (.ref 114), (.int 198 0), (.int 0 0), (.ref 121), (.int 207 0), (.int 0 0), (.ref 126), (.int 212 0), (.int 0 0), (.ref 131), (.int 214 0), (.int 0 0), (.ref 136), (.int 216 0), (.int 0 0), (.ref 141), (.int 226 0), (.int 0 0), (.ref 146), (.int 228 0), (.int 0 0), (.ref 151)]
noncomputable def objsH : Params → List Obj := fun P => [
  boot_o_0 P,
  boot_o_1 P,
  boot_o_2 P,
  { cls := .type "dict", data := .dict ⟨dE P⟩ 31 },
  boot_o_4 P,
  boot_o_5 P,
  boot_o_6 P,
  boot_o_7 P,
  boot_o_8 P,
  boot_o_9 P,
  boot_o_10 P,
  tu [],
  fl tabE,
  { cls := .type "code", data := .fields #[(vs "<module>" 182), (vs "<module>" 183), (vs "/claim/cut.py" 184), (.int 1 0), (.int 0 0), (.int 0 0), (.int 0 0), (.int 0 0), (.ref 11), (.bool false), (.int 181 0), (.ref 12), .none, .none, .none, .none, (.int 185 0), (.int 1 0), (vs "/claim/cut.py" 186)] },
  { cls := .type "frame", slots := #[some (.ref 13), some (.ref 3), some (.ref 3), none, some (vs "__main__" 164), none, some (.ref 0)] },
  tu [],
  fl [],
  tu [(vs "heap" 192), (vs "item" 193)],
  tu [],
  dc (fo "heappush" 20 "cpy313.heapq" 187 .none (by rfl)),
  co "heappush" 189 2 2 15 16 (.ref 17) (.ref 18) 19 194,
  fo "heappush" 20 "cpy313.heapq" 187 .none (by rfl),
  tu [],
  fl [],
  tu [(vs "heap" 200), (vs "lastelt" 201), (vs "returnitem" 202)],
  tu [],
  dc (fo "heappop" 27 "cpy313.heapq" 187 .none (by rfl)),
  co "heappop" 197 5 1 22 23 (.ref 24) (.ref 25) 26 203,
  fo "heappop" 27 "cpy313.heapq" 187 .none (by rfl),
  tu [],
  fl [],
  tu [(vs "heap" 209), (vs "item" 210), (vs "returnitem" 211)],
  tu [],
  dc (fo "heapreplace" 34 "cpy313.heapq" 187 .none (by rfl)),
  co "heapreplace" 206 13 2 29 30 (.ref 31) (.ref 32) 33 212,
  fo "heapreplace" 34 "cpy313.heapq" 187 .none (by rfl),
  tu [],
  fl [],
  tu [(vs "x" 218), (vs "n" 219), (vs "i" 220)],
  tu [],
  dc (fo "heapify" 41 "cpy313.heapq" 187 .none (by rfl)),
  co "heapify" 215 18 1 36 37 (.ref 38) (.ref 39) 40 221,
  fo "heapify" 41 "cpy313.heapq" 187 .none (by rfl),
  tu [],
  fl [],
  tu [(vs "heap" 227), (vs "item" 228), (vs "returnitem" 229)],
  tu [],
  dc (fo "_heapreplace_max" 48 "cpy313.heapq" 187 .none (by rfl)),
  co "_heapreplace_max" 224 22 2 43 44 (.ref 45) (.ref 46) 47 230,
  fo "_heapreplace_max" 48 "cpy313.heapq" 187 .none (by rfl),
  tu [],
  fl [],
  tu [(vs "x" 236), (vs "n" 237), (vs "i" 238)],
  tu [],
  dc (fo "_heapify_max" 55 "cpy313.heapq" 187 .none (by rfl)),
  co "_heapify_max" 233 27 1 50 51 (.ref 52) (.ref 53) 54 239,
  fo "_heapify_max" 55 "cpy313.heapq" 187 .none (by rfl),
  tu [],
  fl [],
  tu [(vs "heap" 245), (vs "startpos" 246), (vs "pos" 247), (vs "newitem" 248), (vs "parentpos" 249), (vs "parent" 250)],
  tu [],
  dc (fo "_siftdown" 62 "cpy313.heapq" 187 .none (by rfl)),
  co "_siftdown" 242 31 3 57 58 (.ref 59) (.ref 60) 61 251,
  fo "_siftdown" 62 "cpy313.heapq" 187 .none (by rfl),
  tu [],
  fl [],
  tu [(vs "heap" 257), (vs "pos" 258), (vs "endpos" 259), (vs "startpos" 260), (vs "newitem" 261), (vs "childpos" 262), (vs "rightpos" 263)],
  tu [],
  dc (fo "_siftup" 69 "cpy313.heapq" 187 .none (by rfl)),
  co "_siftup" 254 42 2 64 65 (.ref 66) (.ref 67) 68 264,
  fo "_siftup" 69 "cpy313.heapq" 187 .none (by rfl),
  tu [],
  fl [],
  tu [(vs "heap" 270), (vs "startpos" 271), (vs "pos" 272), (vs "newitem" 273), (vs "parentpos" 274), (vs "parent" 275)],
  tu [],
  dc (fo "_siftdown_max" 76 "cpy313.heapq" 187 .none (by rfl)),
  co "_siftdown_max" 267 56 3 71 72 (.ref 73) (.ref 74) 75 276,
  fo "_siftdown_max" 76 "cpy313.heapq" 187 .none (by rfl),
  tu [],
  fl [],
  tu [(vs "heap" 282), (vs "pos" 283), (vs "endpos" 284), (vs "startpos" 285), (vs "newitem" 286), (vs "childpos" 287), (vs "rightpos" 288)],
  tu [],
  dc (fo "_siftup_max" 83 "cpy313.heapq" 187 .none (by rfl)),
  co "_siftup_max" 279 67 2 78 79 (.ref 80) (.ref 81) 82 289,
  fo "_siftup_max" 83 "cpy313.heapq" 187 .none (by rfl),
  tu [.none],
  tu [],
  fl [],
  dc (fo "nsmallest" 89 "cpy313.heapq" 187 (.ref 85) (by rfl)),
  co "nsmallest" 292 81 3 86 87 .none .none 88 295,
  fo "nsmallest" 89 "cpy313.heapq" 187 (.ref 85) (by rfl),
  tu [.none],
  tu [],
  fl [],
  dc (fo "nlargest" 95 "cpy313.heapq" 187 (.ref 91) (by rfl)),
  co "nlargest" 298 126 3 92 93 .none .none 94 301,
  fo "nlargest" 95 "cpy313.heapq" 187 (.ref 91) (by rfl),
  tu [],
  fl [],
  tu [],
  tu [],
  dc (fo "OWN" 102 "law_ir0005_01" 304 .none (by rfl)),
  co "OWN" 306 172 0 97 98 (.ref 99) (.ref 100) 101 309,
  fo "OWN" 102 "law_ir0005_01" 304 .none (by rfl),
  tu [],
  fl [],
  tu [(vs "script" 315), (vs "cells" 316), (vs "found" 317), (vs "ticket" 318), (vs "cell" 319), (vs "near" 320), (vs "far" 321), (vs "small" 322)],
  tu [],
  dc (fo "_law_ties" 109 "law_ir0005_01" 304 .none (by rfl)),
  co "_law_ties" 312 174 1 104 105 (.ref 106) (.ref 107) 108 323,
  fo "_law_ties" 109 "law_ir0005_01" 304 .none (by rfl),
  tu [],
  fl [],
  dc (fo "_law_grown" 114 "law_ir0005_01" 304 .none (by rfl)),
  co "_law_grown" 326 184 2 111 112 .none .none 113 329,
  fo "_law_grown" 114 "law_ir0005_01" 304 .none (by rfl),
  tu [],
  fl [],
  tu [(vs "ties" 335), (vs "place" 336), (vs "met" 337), (vs "at" 338), (vs "tie" 339), (vs "near" 340), (vs "far" 341)],
  tu [],
  dc (fo "_law_side" 121 "law_ir0005_01" 304 .none (by rfl)),
  co "_law_side" 332 198 2 116 117 (.ref 118) (.ref 119) 120 342,
  fo "_law_side" 121 "law_ir0005_01" 304 .none (by rfl),
  tu [],
  fl [],
  dc (fo "_law_choices" 126 "law_ir0005_01" 304 .none (by rfl)),
  co "_law_choices" 345 207 2 123 124 .none .none 125 348,
  fo "_law_choices" 126 "law_ir0005_01" 304 .none (by rfl),
  tu [],
  fl [],
  dc (fo "_law_trees" 131 "law_ir0005_01" 304 .none (by rfl)),
  co "_law_trees" 351 212 1 128 129 .none .none 130 354,
  fo "_law_trees" 131 "law_ir0005_01" 304 .none (by rfl),
  tu [],
  fl [],
  dc (fo "_law_worth" 136 "law_ir0005_01" 304 .none (by rfl)),
  co "_law_worth" 357 214 1 133 134 .none .none 135 360,
  fo "_law_worth" 136 "law_ir0005_01" 304 .none (by rfl),
  tu [],
  fl [],
  dc (fo "_law_exchanges" 141 "law_ir0005_01" 304 .none (by rfl)),
  co "_law_exchanges" 363 216 2 138 139 .none .none 140 366,
  fo "_law_exchanges" 141 "law_ir0005_01" 304 .none (by rfl),
  tu [],
  fl [],
  dc (fo "_law_led" 146 "law_ir0005_01" 304 .none (by rfl)),
  co "_law_led" 369 226 2 143 144 .none .none 145 372,
  fo "_law_led" 146 "law_ir0005_01" 304 .none (by rfl),
  tu [],
  fl [],
  dc (fo "law" 151 "law_ir0005_01" 304 .none (by rfl)),
  co "law" 375 228 1 148 149 .none .none 150 378,
  fo "law" 151 "law_ir0005_01" 304 .none (by rfl)]
noncomputable def heapH : Params → Heap := fun P => { objs := ⟨objsH P⟩ }
noncomputable def heapM : Params → Heap := fun P => { objs := ⟨(((objsH P).take 97).set 3 { cls := .type "dict", data := .dict ⟨(dE P).take 21⟩ 21 }).set 12 (fl (tabE.take 36))⟩ }
noncomputable def heap0 : Params → Heap := fun P => { objs := ⟨(((objsH P).take 15).set 3 (boot_o_3 P)).set 12 (fl [])⟩ }
abbrev vE : Env := { scope := pw.main.scope, locals := mainNs, globals := mainNs, cells := [], code := .ref 13, frame := some 14 }
def l1 : List Stmt := (behindTheImports pw).take 14
def l2 : List Stmt := (behindTheImports pw).drop 14
abbrev cE : Code := .body (behindTheImports pw) vE
abbrev p0 : Pos := ⟨0, 0, 0, 0⟩
abbrev B0 : List Frame := [topFrame p0]
noncomputable abbrev h0 (w : World) (os : OsState) : Shared := ⟨heap0 w.params, ⟨[]⟩, {}, 187, os⟩
noncomputable abbrev hm (w : World) (os : OsState) : Shared := ⟨heapM w.params, ⟨[]⟩, {}, 306, os⟩
noncomputable abbrev hs (w : World) (os : OsState) : Shared := ⟨heapH w.params, ⟨[]⟩, {}, 381, os⟩
abbrev xt (s : Shared) : Bool := xlAt vw [] s && recOk (RowW.records PySem.Challenge.rw_ir0005_01.row.toRowW) s
theorem tp_pre (w : World) (os : OsState) : topGo treeTable pw w 11 (some (.ref 6)) 12 ⟨boot_heap w.params, ⟨[]⟩, boot_drawn, boot_toks, os⟩ (topStub pw) = some (h0 w os, ⟨denote treeTable cE, cE, p0, B0⟩) := by kernel_rfl
theorem tp_block (w : World) (os : OsState) : segRun treeTable pw w 11 (some (.ref 6)) 1 1 (h0 w os) (blockOf (behindTheImports pw) vE cE p0 B0) = some (.next, h0 w os, cE, p0) := by kernel_rfl
theorem tp_1 (w : World) (os : OsState) : segRun treeTable pw w 11 (some (.ref 6)) 1 396 (h0 w os) (piecesOf l1 vE cE p0 B0) = some (.next, hm w os, cE, ⟨171, 0, 171, 8⟩) := by kernel_rfl
theorem tp_2 (w : World) (os : OsState) : segRun treeTable pw w 11 (some (.ref 6)) 1 282 (hm w os) (piecesOf l2 vE cE ⟨171, 0, 171, 8⟩ B0) = some (.next, hs w os, cE, ⟨228, 0, 251, 64⟩) := by kernel_rfl
theorem tp_fin (w : World) (os : OsState) : topRun treeTable pw w 11 (some (.ref 6)) 2 (hs w os) (restOf [] vE cE ⟨228, 0, 251, 64⟩ B0) = some (hs w os) := by kernel_rfl
theorem tp_all : l1 ++ (l2 ++ []) = behindTheImports pw := by rw [List.append_nil]; exact List.take_append_drop 14 _
theorem tp_run (w : World) (os : OsState) : topRun treeTable pw w 11 (some (.ref 6)) (12 + (1 + (396 + (282 + 2)))) ⟨boot_heap w.params, ⟨[]⟩, boot_drawn, boot_toks, os⟩ (topStub pw) = some (hs w os) := by
  have k := piece_app (tp_1 w os) (piece_app (tp_2 w os) (tp_fin w os))
  rw [tp_all] at k
  exact go_top (tp_pre w os) (piece_block (tp_block w os) k)
theorem tp_kept (w : World) (os : OsState) : (staticsOk (importedModules pw.main.body) (boot_heap w.params) (heapH w.params) && namesBound pw (heapH w.params) && gensDone (hs w os) && laidKept (boot_heap w.params) (heapH w.params)) = true := by kernel_rfl
theorem tp_seen (w : World) (os : OsState) : openSeen vw loose (importedModules pw.main.body) xt true (hs w os) = openGood vw loose := by kernel_rfl
theorem tp_hook (w : World) (os : OsState) : Hook.obs hookK (hs w os) = Hook.val hookK w := by kernel_rfl
theorem tp_size (w : World) : ((boot_heap w.params).isNs mainGlobals && (⟨[]⟩ : Array GenState).size == 0, (boot_heap w.params).objs.size, (boot_heap w.params).nsMap mainGlobals "__annotations__") = (true, 11, some (.ref 6)) := by kernel_rfl
theorem left : LeftO pw vw loose xt (Hook.obs hookK) (Hook.val hookK) 1478 :=
  LeftO.of_pieces (boot_open (by kernel_rfl) (by kernel_rfl) (fun s => by kernel_rfl)) tp_size tp_run (by kernel_rfl) fun w => funext fun os => looks_pair (tp_kept w os) (looks_pair (tp_seen w os) (tp_hook w os))
end Mine
namespace Mine
set_option maxRecDepth 100000
set_option maxHeartbeats 8000000
abbrev lw : OpenLaw := PySem.Challenge.rw_ir0005_01
abbrev bd : List Stmt := lw.row.prog.main.body
theorem sa_vars : List.filter (readsOut lw.row.prog bd) [Str.ofString "vars", Str.ofString "dir", Str.ofString "locals"] = [] := by kernel_rfl
theorem sa_mods : (!(importedModules bd).all cThrough.contains) = false := by kernel_rfl
theorem sa_road0 : noRoadLSs { strict := false, foot := none, bare := [] } bd = true := by kernel_rfl
theorem sa_road : noRoadLSs { strict := !(importedModules bd).all cThrough.contains, foot := none, bare := List.filter (readsOut lw.row.prog bd) [Str.ofString "vars", Str.ofString "dir", Str.ofString "locals"] } bd = true := by
  rw [sa_mods, sa_vars]; exact sa_road0
theorem sa_names : namesResolve lw.row.prog = true := by kernel_rfl
theorem sa_meet : (namesMeet lw.row.prog bd fun _ n => attrL n) = true := by kernel_rfl
theorem sa_row : lw.row.wellSaid = true := by
  unfold OpenRow.wellSaid OpenRow.partSaid looksOpen
  repeat' with_reducible refine look_both ?_ ?_
  kernel_rfl
  kernel_rfl
  exact sa_names
  kernel_rfl
  exact sa_road
  exact sa_meet
  all_goals kernel_rfl
theorem sa_foot : noRoadLSs { strict := true, foot := some lw.bound', writes := lw.writes, may := lw.may } lw.footing = true := by kernel_rfl
theorem sa_block : noClassBlock lw.prog lw.footing = true := by kernel_rfl
theorem sa_namesIt : lw.namesIt = true := by kernel_rfl
theorem sa_bound : (lw.bound'.all fun n => !builtinNamed n || lw.about == [n] || !lw.reads n) = true := by kernel_rfl
theorem sa_footing : (namesMeet lw.prog lw.footing fun sc n => (!(["type", "isinstance", "issubclass", "getattr", "hasattr"] : List Str).contains n || sc.names.lookup n == some .globalImplicit) && (lw.may != some n || sc.kind == .module || sc.names.lookup n == some .globalImplicit)) = true := by kernel_rfl
theorem sa_own : (lw.own.all fun n => !builtinNamed n) = true := by kernel_rfl
theorem sa_above : (namesMeet lw.prog lw.above fun _ n => !lw.own.contains n) = true := by kernel_rfl
theorem sa_last : (namesMeet lw.prog lw.footing fun sc n => sc.kind == .module || sc.names.lookup n != some .globalExplicit) = true := by kernel_rfl
theorem said : OpenLaw.wellSaid lw = true := by
  unfold OpenLaw.wellSaid
  repeat' with_reducible refine look_both ?_ ?_
  exact sa_row
  kernel_rfl
  kernel_rfl
  exact sa_block
  kernel_rfl
  kernel_rfl
  exact sa_foot
  kernel_rfl
  exact sa_namesIt
  kernel_rfl
  exact sa_bound
  kernel_rfl
  kernel_rfl
  exact sa_footing
  kernel_rfl
  kernel_rfl
  exact sa_own
  exact sa_above
  exact sa_last
end Mine
set_option hygiene false in
local macro_rules | `(tactic| walk_at "u") => `(tactic| repeat' (with_reducible first | refine hKB _ _ _ ?_ | refine kc_next ?_ | refine kc_ret ?_ | refine kc_cont ?_ | refine turn_next ?_ | refine turn_cont ?_ | refine turn_brk ?_ | refine turn_ret ?_ | refine fin_ret ?_ | refine fin_next ?_ | refine kc_brk ?_))
set_option hygiene false in
local macro_rules | `(tactic| walk_at "lk") => `(tactic| first | assumption | exact Vars.set_self _ _ _ | (refine (Vars.set_ne _ _ (by decide)).trans ?_; walk_at "lk") | (refine (seen_eq (by rfl)).trans ?_; walk_at "lk"))
set_option hygiene false in
local macro_rules | `(tactic| walk_at "m1") => `(tactic| (walk_at "u"; (first
  | (with_reducible (first | refine ex_cons ?_ | refine ite_tt ?_ | refine ite_ff ?_ | refine ite_nt ?_ | refine ite_nf ?_ | refine ex_nil ?_ | refine ex_if ?_ | refine ex_ret ?_ | refine ex_cont ?_ | refine ex_break ?_ | refine ev_bin ?_ | refine ev_ifexp ?_ | refine ts_boolop ?_ | refine ts_not ?_ | refine all_and_nil ?_ | refine all_or_nil ?_ | refine all_and ?_ | refine all_or ?_ | refine evs_nil ?_ | refine evp_none ?_ | refine evp_some ?_ | refine ex_t ?_ | refine ifs_nil ?_ | refine ifs_one ?_))
  | with_reducible refine ex_assign W.ok ?_ (kof W.s (by with_unfolding_all rfl)) (by with_unfolding_all rfl)
  | with_reducible refine ex_expr W.ok ?_ (inter W.ok) (by with_unfolding_all rfl)
  | with_reducible refine ev_int W.ok ?_
  | with_reducible refine ev_none W.ok ?_
  | ((with_reducible show Ev _ _ _ (.Name _ _) _); refine ev_local W.ok (by walk_at "lk") ?_ (kof W.s (by rfl)) (by decide))
  | ((with_reducible show Ev _ _ _ (.Name _ _) _); refine ev_cell W.ok (by walk_at "lk") ?_ (kof W.s (by rfl)) (by decide))
  | with_reducible refine ev_sub (r := .Name _ _) ?_
  | with_reducible refine ev_sub (r := .Constant _ _ _) ?_
  | with_reducible refine ev_sub (r := .BinOp _ _ _ _) ?_
  | with_reducible refine ts_cmp ?_ (by with_unfolding_all rfl)
  | with_reducible refine ev_cmp ?_ (by with_unfolding_all rfl)
  | with_reducible refine evs_cons ?_ (by with_unfolding_all rfl)
  | with_reducible refine wk_call W (by with_unfolding_all rfl) (by with_unfolding_all rfl) (by with_unfolding_all rfl) (by with_unfolding_all rfl) (by with_unfolding_all decide) (by with_unfolding_all rfl) ?_
  | with_reducible refine wk_call0 W (by with_unfolding_all rfl) (by with_unfolding_all rfl) (by with_unfolding_all rfl) (by with_unfolding_all rfl) (by with_unfolding_all decide) ?_
  | with_reducible refine wk_bi W (by with_unfolding_all rfl) (by with_unfolding_all rfl) (by with_unfolding_all rfl) (by with_unfolding_all decide) (by with_unfolding_all decide) (by with_unfolding_all rfl) (by with_unfolding_all rfl) ?_
  | with_reducible refine wk_ty W (by with_unfolding_all rfl) (by with_unfolding_all rfl) (by with_unfolding_all rfl) (by with_unfolding_all decide) (by with_unfolding_all decide) (by with_unfolding_all rfl) (by with_unfolding_all rfl) ?_
  | with_reducible refine op_eq_int (by have := W.u; (first | lia | omega)) ?_
  | with_reducible refine op_ne_int (by have := W.u; (first | lia | omega)) ?_
  | with_reducible refine op_lt_int W.ok ?_
  | with_reducible refine op_tie0 ?_ (fun _ _ => by with_unfolding_all rfl)
  | with_reducible refine op_tie2 ?_ (fun _ _ => by with_unfolding_all rfl)
  | with_reducible refine op_tie3 ?_ (fun _ _ => by with_unfolding_all rfl)
  | with_reducible refine op_sub W.ok ?_
  | with_reducible refine op_mul W.ok ?_ (.of_left (by with_unfolding_all decide))
  | with_reducible refine op_add W.ok ?_
  | with_reducible refine op_shr W.ok (by with_unfolding_all decide) ?_
  | with_reducible refine op_mod W.ok (by with_unfolding_all decide) ?_
  | with_reducible refine op_div W.ok (by with_unfolding_all decide) (by with_unfolding_all decide) ?_
  ) <;> walk_at "u"))
set_option hygiene false in
local macro_rules | `(tactic| walk_at "br") => `(tactic| first | (refine ite_yes (by first | assumption | (first | lia | omega)) ?_; walk_at "m") | (refine ite_no (by first | assumption | (first | lia | omega)) ?_; walk_at "m"))
local macro_rules | `(tactic| walk_at "m") => `(tactic| (walk_at "u"; repeat' (walk_at "m1")))
set_option hygiene false in
local macro_rules | `(tactic| walk_at "go") => `(tactic| (refine fn_go (sc := _) (by rfl) (by rfl) (by rfl) (by rfl) (by rfl) (by first | exact bind1 (fun u => by rfl) _ | exact bind2 (fun u v => by rfl) _ | exact bind3 (fun u v w => by rfl) _ | exact bind0 (by rfl) _) (by decide) (by rfl) (by rfl) (by rfl) (by rfl) (by rfl) (by rfl) ?_; intro c W hcs how; dsimp only at W hcs; simp only [Vars.setAll]))
set_option hygiene false in
local macro_rules | `(tactic| walk_at "c0") => `(tactic| (refine ev_comp W.ok (clos0 (by rfl) (by decide) (by rfl) (by decide)) (by rfl) ?_ (fun _ => rfl); walk_at "m"))
set_option hygiene false in
local macro_rules | `(tactic| walk_at "kid") => `(tactic| (have W := W.kid ok (by unfold relabel Env.kindOf; rw [W.s])))
namespace Mine
open PySem.SeqAt Classical
set_option maxHeartbeats 4000000
set_option pp.deepTerms false
set_option pp.proofs false
noncomputable abbrev KP (w : World) : Frag := heapK w.params

theorem w_siftdown {prog : Program} {w : World} {r0 : Shared} {σ : Sto} {a : Addr} {l : List D} {start pos : Nat} {K : V → Sto → Prop} {t : Ty} (hl : σ a = some l) (hp : pos < l.length) (hz : l.length ≤ 1000) (ht : ∀ d ∈ l, Has t d)
    (hk : K (.d .none) (σ.set a (sift D.lt start pos l))) : Fn (KP w) prog w r0 1 (t.depth + 3) 63 [.raw (.ref a), .d (.int start), .d (.int pos)] σ K := by
  walk_at "go"
  walk_at "m"
  refine op_itemN (Vw.p hl) hp (by (first | lia | omega)) ?_ (fun _ _ => rfl)
  walk_at "m1"
  refine ex_while (fun n ρ' σ' => ∃ l', A7 (n ≤ pos) (l'.length = l.length) (∀ d ∈ l', Has t d) (ρ' "heap" = some (.raw (.ref a))) (ρ' "pos" = some (.d (.int n))) (ρ' "startpos" = some (.d (.int start))) (A3 (ρ' "newitem" = some (.d (l.getD pos .none))) (σ' = σ.set a l') (sdn D.lt (l.getD pos .none) start n l' = sift D.lt start pos l))) ?_ pos ⟨l, Nat.le_refl _, rfl, ht, by walk_at "lk", by walk_at "lk", by walk_at "lk", by walk_at "lk", (Sto.set_same σ hl).symm, rfl⟩
  rintro n ρ' σ' ⟨l', hn, hl', ht', e1, e2, e3, e4, rfl, he⟩ KB hKB
  walk_at "m"
  refine op_gt W.ok ⟨_, rfl, ?_⟩
  by_cases h : start < n
  · rw [if_pos (by simpa using h)]
    walk_at "m"
    rw [shr1 (by (first | lia | omega))]
    refine op_itemN (i := (n - 1) / 2) (Vw.p (Sto.set_self _ _ _)) (by (first | lia | omega)) (by (first | lia | omega)) ?_ (fun _ _ => rfl)
    walk_at "m"
    refine op_cmp_lt (Vw.d _) (Vw.d _) (ht _ (getD_mem (by (first | lia | omega)))) (ht' _ (getD_mem (by (first | lia | omega)))) (by have := W.u; (first | lia | omega)) ⟨_, rfl, ?_⟩
    cases hc : D.lt (l.getD pos .none) (l'.getD ((n - 1) / 2) .none)
    · walk_at "m"
      refine ex_setitem W.ok ?_ (by rfl)
      walk_at "m"
      refine ⟨a, l', n, _, rfl, rfl, rfl, Sto.set_self _ _ _, by (first | lia | omega), by (first | lia | omega), by (first | lia | omega), ?_⟩
      walk_at "m"
      rw [Sto.set_set]
      rw [← he, sdn, dif_pos h, hc] at hk
      exact hk
    · walk_at "m1"
      walk_at "m1"
      refine ex_setitem W.ok ?_ (by rfl)
      walk_at "m"
      refine ⟨a, l', n, _, rfl, rfl, rfl, Sto.set_self _ _ _, by (first | lia | omega), by (first | lia | omega), by (first | lia | omega), ?_⟩
      walk_at "m"
      refine ⟨(n - 1) / 2, half_lt h, l'.set n (l'.getD ((n - 1) / 2) .none), by (first | lia | omega), by simpa using hl', fun d hd => ?_, by walk_at "lk", by walk_at "lk", by walk_at "lk", by walk_at "lk", by rw [Sto.set_set]; rfl, ?_⟩
      · rcases List.mem_or_eq_of_mem_set hd with hd | rfl
        · exact ht' _ hd
        · exact ht' _ (getD_mem (by (first | lia | omega)))
      · rw [← he]
        conv => rhs; rw [sdn, dif_pos h, hc]
        rfl
  · rw [if_neg (by simpa using h)]
    walk_at "m1"
    refine ex_setitem W.ok ?_ (by rfl)
    walk_at "m"
    refine ⟨a, l', n, _, rfl, rfl, rfl, Sto.set_self _ _ _, by (first | lia | omega), by (first | lia | omega), by (first | lia | omega), ?_⟩
    walk_at "m"
    rw [Sto.set_set]
    rw [← he, sdn, dif_neg h] at hk
    exact hk
theorem w_siftup {prog : Program} {w : World} {r0 : Shared} {σ : Sto} {a : Addr} {l : List D} {pos : Nat} {K : V → Sto → Prop} {t : Ty} (hl : σ a = some l) (hp : pos < l.length) (hz : l.length ≤ 1000) (ht : ∀ d ∈ l, Has t d)
    (hk : K (.d .none) (σ.set a (siftup D.lt pos l))) : Fn (KP w) prog w r0 2 (t.depth + 6) 70 [.raw (.ref a), .d (.int pos)] σ K := by
  walk_at "go"
  walk_at "m"
  refine cl_len W.ok (Vw.p hl) (by (first | lia | omega)) ?_
  walk_at "m"
  refine op_itemN (Vw.p hl) hp (by (first | lia | omega)) ?_ (fun _ _ => rfl)
  walk_at "m"
  rw [dbl1 pos]
  refine ex_while (fun n ρ' σ' => E2 fun l' p => A7 (n = l.length - p) (p < l.length) (l'.length = l.length) (∀ d ∈ l', Has t d) (ρ' "heap" = some (.raw (.ref a))) (ρ' "pos" = some (.d (.int p))) (A6 (ρ' "childpos" = some (.d (.int (2 * p + 1 : Nat)))) (ρ' "startpos" = some (.d (.int pos))) (ρ' "endpos" = some (.d (.int l.length))) (ρ' "newitem" = some (.d (l.getD pos .none))) (σ' = σ.set a l') (sup D.lt l.length p l' = sup D.lt l.length pos l))) ?_ (l.length - pos) ⟨l, pos, rfl, hp, rfl, ht, by walk_at "lk", by walk_at "lk", by walk_at "lk", by walk_at "lk", by walk_at "lk", by walk_at "lk", (Sto.set_same σ hl).symm, rfl⟩
  rintro n ρ' σ' ⟨l', p, hn, hpl, hl', ht', e1, e2, e3, e4, e5, e6, rfl, he⟩ KB hKB
  walk_at "m"
  (first | refine op_lt_int W.ok ⟨_, rfl, ?_⟩ | refine ⟨_, rfl, ?_⟩)
  have hi : σ.set a l' a = some l' := Sto.set_self _ _ _
  by_cases h : 2 * p + 1 < l.length
  · rw [if_pos (by rw [decide_eq_true_eq]; (first | lia | omega))]
    walk_at "m1"
    walk_at "m1"
    walk_at "m1"
    walk_at "m1"
    walk_at "m1"
    walk_at "m1"
    rw [show (((2 * p + 1 : Nat) : Int) + 1) = ((2 * p + 2 : Nat) : Int) from by (first | lia | omega)]
    have hcl := supC_lt D.lt l' h
    refine ex_if_join (fun ρ2 σ2 => σ2 = σ.set a l' ∧ ρ2 "heap" = some (.raw (.ref a)) ∧ ρ2 "pos" = some (.d (.int p)) ∧ ρ2 "childpos" = some (.d (.int (supC D.lt l.length p l' : Nat))) ∧ ρ2 "startpos" = some (.d (.int pos)) ∧ ρ2 "endpos" = some (.d (.int l.length)) ∧ ρ2 "newitem" = some (.d (l.getD pos .none))) ?_ ?_
    · have stay : supC D.lt l.length p l' = 2 * p + 1 → (σ.set a l' = σ.set a l' ∧ (ρ'.set "rightpos" (.d (.int (2 * p + 2 : Nat)))) "heap" = some (.raw (.ref a)) ∧ (ρ'.set "rightpos" (.d (.int (2 * p + 2 : Nat)))) "pos" = some (.d (.int p)) ∧ (ρ'.set "rightpos" (.d (.int (2 * p + 2 : Nat)))) "childpos" = some (.d (.int (supC D.lt l.length p l' : Nat))) ∧ (ρ'.set "rightpos" (.d (.int (2 * p + 2 : Nat)))) "startpos" = some (.d (.int pos)) ∧ (ρ'.set "rightpos" (.d (.int (2 * p + 2 : Nat)))) "endpos" = some (.d (.int l.length)) ∧ (ρ'.set "rightpos" (.d (.int (2 * p + 2 : Nat)))) "newitem" = some (.d (l.getD pos .none))) := fun q => by
        rw [q]
        exact ⟨rfl, by walk_at "lk", by walk_at "lk", by walk_at "lk", by walk_at "lk", by walk_at "lk", by walk_at "lk"⟩
      walk_at "m"
      (first | refine op_lt_int W.ok ⟨_, rfl, ?_⟩ | refine ⟨_, rfl, ?_⟩)
      by_cases h2 : 2 * p + 2 < l.length
      · rw [if_pos (by rw [decide_eq_true_eq]; (first | lia | omega))]
        walk_at "m"
        refine op_itemN (Vw.p hi) (by (first | lia | omega)) (by (first | lia | omega)) ?_ (fun _ _ => rfl)
        walk_at "m"
        refine op_itemN (Vw.p hi) (by (first | lia | omega)) (by (first | lia | omega)) ?_ (fun _ _ => rfl)
        refine op_cmp_lt (Vw.d _) (Vw.d _) (ht' _ (getD_mem (by (first | lia | omega)))) (ht' _ (getD_mem (by (first | lia | omega)))) (by have := W.u; (first | lia | omega)) ⟨_, rfl, ?_⟩
        cases hc : D.lt (l'.getD (2 * p + 1) .none) (l'.getD (2 * p + 2) .none)
        · have q : supC D.lt l.length p l' = 2 * p + 2 := by unfold supC; rw [if_pos ⟨h2, hc⟩]
          walk_at "m"
          refine ⟨rfl, ?_⟩
          rw [q]
          exact ⟨rfl, by walk_at "lk", by walk_at "lk", by walk_at "lk", by walk_at "lk", by walk_at "lk", by walk_at "lk"⟩
        · walk_at "m"
          refine stay ?_
          unfold supC; rw [if_neg (fun z => by rw [hc] at z; cases z.2)]
      · rw [if_neg (by rw [decide_eq_true_eq]; (first | lia | omega))]
        walk_at "m"
        refine stay ?_
        unfold supC; rw [if_neg (fun z => h2 z.1)]
    · rintro ρ2 σ2 ⟨rfl, g1, g2, g3, g4, g5, g6⟩
      walk_at "m1"
      refine ex_setitem W.ok ?_ (by rfl)
      walk_at "m"
      refine op_itemN (Vw.p hi) (by (first | lia | omega)) (by (first | lia | omega)) ?_ (fun _ _ => rfl)
      walk_at "m"
      refine ⟨a, l', p, _, rfl, rfl, rfl, hi, by (first | lia | omega), by (first | lia | omega), by (first | lia | omega), ?_⟩
      walk_at "m"
      rw [dbl1]
      refine ⟨l.length - supC D.lt l.length p l', by (first | lia | omega), l'.set p (l'.getD (supC D.lt l.length p l') .none), supC D.lt l.length p l', rfl, by (first | lia | omega), by simpa using hl', fun d hd => ?_, by walk_at "lk", by walk_at "lk", by walk_at "lk", by walk_at "lk", by walk_at "lk", by walk_at "lk", by rw [Sto.set_set]; rfl, ?_⟩
      · rcases List.mem_or_eq_of_mem_set hd with hd | rfl
        · exact ht' _ hd
        · exact ht' _ (getD_mem (by (first | lia | omega)))
      · rw [← he]
        conv => rhs; rw [sup, dif_pos h]
  · rw [if_neg (by rw [decide_eq_true_eq]; (first | lia | omega))]
    walk_at "m"
    refine ex_setitem W.ok ?_ (by rfl)
    walk_at "m"
    refine ⟨a, l', p, _, rfl, rfl, rfl, hi, by (first | lia | omega), by (first | lia | omega), by (first | lia | omega), ?_⟩
    walk_at "m"
    have hs : sup D.lt l.length pos l = (p, l') := by rw [← he, sup, dif_neg h]
    refine W.fn (w_siftdown (t := t) (l := l'.set p (l.getD pos .none)) (Sto.set_self _ _ _) (by rw [List.length_set]; (first | lia | omega)) (by rw [List.length_set]; (first | lia | omega)) (fun d hd => ?_) ?_) (Nat.le_refl _) (by (first | lia | omega))
    · rcases List.mem_or_eq_of_mem_set hd with hd | rfl
      · exact ht' _ hd
      · exact ht _ (getD_mem hp)
    · refine ⟨rfl, ?_⟩
      walk_at "m"
      simp only [Sto.set_set]
      unfold siftup at hk
      rw [hs] at hk
      exact hk
theorem w_heappush {prog : Program} {w : World} {r0 : Shared} {σ : Sto} {a : Addr} {l : List D} {x : D} {K : V → Sto → Prop} {t : Ty} (hl : σ a = some l) (hz : l.length < 1000) (ht : ∀ d ∈ l, Has t d) (hx : Has t x)
    (hk : K (.d .none) (σ.set a (hpush D.lt l x))) : Fn (KP w) prog w r0 2 (t.depth + 6) 21 [.raw (.ref a), .d x] σ K := by
  walk_at "go"
  walk_at "m"
  refine ev_append W.ok (by rfl) (by rfl) ?_
  walk_at "m"
  refine ⟨a, l, rfl, hl, ?_⟩
  walk_at "m"
  refine ⟨_, l, rfl, hl, by (first | lia | omega), ⟨rfl, ?_⟩⟩
  walk_at "m"
  refine cl_len W.ok (Vw.p (Sto.set_self _ _ _)) (by simp; (first | lia | omega)) ?_
  walk_at "m"
  rw [show (((l ++ [x]).length : Int) - 1) = (l.length : Nat) from by simp]
  refine W.fn (w_siftdown (t := t) (start := 0) (Sto.set_self _ _ _) (by simp) (by simp; (first | lia | omega)) (fun d hd => ?_) ?_) (Nat.le_refl _) (Nat.le_refl _)
  · rcases List.mem_append.mp hd with hd | hd
    · exact ht _ hd
    · rw [List.mem_singleton.mp hd]; exact hx
  · refine ⟨rfl, ?_⟩
    walk_at "m"
    rw [Sto.set_set]
    exact hk

theorem w_heappop {prog : Program} {w : World} {r0 : Shared} {σ : Sto} {a : Addr} {l : List D} {x : D} {K : V → Sto → Prop} {t : Ty} (hl : σ a = some (l ++ [x])) (hz : l.length < 1000) (ht : ∀ d ∈ l, Has t d) (hx : Has t x)
    (hk : K (.d (hpop D.lt l x).1) (σ.set a (hpop D.lt l x).2)) : Fn (KP w) prog w r0 3 (t.depth + 9) 28 [.raw (.ref a)] σ K := by
  walk_at "go"
  walk_at "m"
  refine ev_pop W.ok (by rfl) ?_
  walk_at "m"
  refine ⟨a, l, x, rfl, hl, by (first | lia | omega), ?_⟩
  walk_at "m"
  refine tst_list W.ok (by rfl) ?_
  walk_at "m"
  refine ⟨l, Vw.p (Sto.set_self _ _ _), by (first | lia | omega), ?_⟩
  unfold hpop at hk
  cases he : l.isEmpty
  · have hne : l ≠ [] := by rintro rfl; cases he
    have h0 : 0 < l.length := List.length_pos_iff.mpr hne
    rw [if_neg hne] at hk
    walk_at "m"
    refine op_itemN (i := 0) (Vw.p (Sto.set_self _ _ _)) h0 (by (first | lia | omega)) ?_ (fun _ _ => rfl)
    walk_at "m"
    refine ex_setitem W.ok ?_ (by rfl)
    walk_at "m"
    refine ⟨a, l, 0, _, rfl, rfl, rfl, Sto.set_self _ _ _, by (first | lia | omega), by (first | lia | omega), by (first | lia | omega), ?_⟩
    walk_at "m"
    refine W.fn (w_siftup (t := t) (pos := 0) (l := l.set 0 x) (Sto.set_self _ _ _) (by simpa using h0) (by simp; (first | lia | omega)) (mem_set_of ht hx) ?_) (Nat.le_refl _) (Nat.le_refl _)
    refine ⟨rfl, ?_⟩
    walk_at "m"
    simp only [Sto.set_set]
    exact hk
  · have hne : l = [] := List.isEmpty_iff.mp he
    rw [if_pos hne] at hk
    walk_at "m"
    rw [hne]
    exact hk

theorem w_heapify {prog : Program} {w : World} {r0 : Shared} {σ : Sto} {a : Addr} {l : List D} {K : V → Sto → Prop} {t : Ty} (hl : σ a = some l) (hz : l.length < 1000) (ht : ∀ d ∈ l, Has t d)
    (hm : ∀ (l : List D) p, p < l.length → (∀ d ∈ l, Has t d) → ∀ d ∈ siftup D.lt p l, Has t d)
    (hk : K (.d .none) (σ.set a (hfy D.lt (l.length / 2) l))) : Fn (KP w) prog w r0 3 (t.depth + 9) 42 [.raw (.ref a)] σ K := by
  walk_at "go"
  walk_at "m"
  refine cl_len W.ok (Vw.p hl) (by (first | lia | omega)) ?_
  walk_at "m1"
  refine ex_forR W.ok (.loc (kof W.s (by rfl))) (kof W.s (by rfl)) (nof W.k (by rfl)) (kof W.s (by rfl)) (nof W.k (by rfl)) (by rfl) (by rfl) ?_
  walk_at "m"
  rw [show Int.fdiv (l.length : Int) 2 = ((l.length / 2 : Nat) : Int) from by rw [show (2 : Int) = ((2 : Nat) : Int) from rfl, ← Int.ofNat_fdiv]]
  refine ⟨l.length / 2, fun pre ρ' σ' => ∃ l', A5 (ρ' "x" = some (.raw (.ref a))) (l'.length = l.length) (∀ d ∈ l', Has t d) (σ' = σ.set a l') (hfy D.lt (l.length / 2 - pre.length) l' = hfy D.lt (l.length / 2) l), rfl, by (first | lia | omega), ⟨l, by walk_at "lk", rfl, ht, (Sto.set_same σ hl).symm, rfl⟩, ?_, ?_⟩
  · rintro pre d post ρ' σ' hd ⟨l', e1, hl', ht', rfl, he⟩ KB hKB
    have hlen : pre.length < l.length / 2 := by
      have := congrArg List.length hd
      simp [down] at this; (first | lia | omega)
    have hdv : d = .int (((l.length / 2 - 1 - pre.length : Nat)) : Int) := by
      have h1 : (down (l.length / 2))[pre.length]? = some d := by rw [hd]; simp
      unfold down at h1
      rw [List.getElem?_map, List.getElem?_range hlen] at h1
      simp only [Option.map_some, Option.some.injEq] at h1
      rw [← h1]; congr 1; (first | lia | omega)
    subst hdv
    walk_at "m"
    refine W.fn (w_siftup (t := t) (l := l') (Sto.set_self _ _ _) (by (first | lia | omega)) (by (first | lia | omega)) ht' ?_) (Nat.le_refl _) (Nat.le_refl _)
    refine ⟨rfl, ?_⟩
    walk_at "m"
    refine ⟨siftup D.lt (l.length / 2 - 1 - pre.length) l', by walk_at "lk", by rw [siftup_length]; exact hl', hm _ _ (by (first | lia | omega)) ht', by rw [Sto.set_set], ?_⟩
    rw [← he, List.length_append, List.length_singleton]
    conv => rhs; rw [show l.length / 2 - pre.length = (l.length / 2 - 1 - pre.length) + 1 from by (first | lia | omega), hfy]
    rw [show l.length / 2 - (pre.length + 1) = l.length / 2 - 1 - pre.length from by (first | lia | omega)]
  · rintro ρ' σ' ⟨l', e1, hl', ht', rfl, he⟩
    walk_at "m"
    rw [show l.length / 2 - (down (l.length / 2)).length = 0 from by simp [down], hfy] at he
    rw [he]
    exact hk
theorem w_siftdown_max {prog : Program} {w : World} {r0 : Shared} {σ : Sto} {a : Addr} {l : List D} {start pos : Nat} {K : V → Sto → Prop} {t : Ty} (hl : σ a = some l) (hp : pos < l.length) (hz : l.length ≤ 1000) (ht : ∀ d ∈ l, Has t d)
    (hk : K (.d .none) (σ.set a (sift gtD start pos l))) : Fn (KP w) prog w r0 1 (t.depth + 3) 77 [.raw (.ref a), .d (.int start), .d (.int pos)] σ K := by
  walk_at "go"
  walk_at "m"
  refine op_itemN (Vw.p hl) hp (by (first | lia | omega)) ?_ (fun _ _ => rfl)
  walk_at "m1"
  refine ex_while (fun n ρ' σ' => ∃ l', A7 (n ≤ pos) (l'.length = l.length) (∀ d ∈ l', Has t d) (ρ' "heap" = some (.raw (.ref a))) (ρ' "pos" = some (.d (.int n))) (ρ' "startpos" = some (.d (.int start))) (A3 (ρ' "newitem" = some (.d (l.getD pos .none))) (σ' = σ.set a l') (sdn gtD (l.getD pos .none) start n l' = sift gtD start pos l))) ?_ pos ⟨l, Nat.le_refl _, rfl, ht, by walk_at "lk", by walk_at "lk", by walk_at "lk", by walk_at "lk", (Sto.set_same σ hl).symm, rfl⟩
  rintro n ρ' σ' ⟨l', hn, hl', ht', e1, e2, e3, e4, rfl, he⟩ KB hKB
  walk_at "m"
  refine op_gt W.ok ⟨_, rfl, ?_⟩
  by_cases h : start < n
  · rw [if_pos (by simpa using h)]
    walk_at "m"
    rw [shr1 (by (first | lia | omega))]
    refine op_itemN (i := (n - 1) / 2) (Vw.p (Sto.set_self _ _ _)) (by (first | lia | omega)) (by (first | lia | omega)) ?_ (fun _ _ => rfl)
    walk_at "m"
    refine op_cmp_lt (Vw.d _) (Vw.d _) (ht' _ (getD_mem (by (first | lia | omega)))) (ht _ (getD_mem (by (first | lia | omega)))) (by have := W.u; (first | lia | omega)) ⟨_, rfl, ?_⟩
    show if gtD (l.getD pos .none) (l'.getD ((n - 1) / 2) .none) = true then _ else _
    cases hc : gtD (l.getD pos .none) (l'.getD ((n - 1) / 2) .none)
    · walk_at "m"
      refine ex_setitem W.ok ?_ (by rfl)
      walk_at "m"
      refine ⟨a, l', n, _, rfl, rfl, rfl, Sto.set_self _ _ _, by (first | lia | omega), by (first | lia | omega), by (first | lia | omega), ?_⟩
      walk_at "m"
      rw [Sto.set_set]
      rw [← he, sdn, dif_pos h, hc] at hk
      exact hk
    · walk_at "m1"
      walk_at "m1"
      refine ex_setitem W.ok ?_ (by rfl)
      walk_at "m"
      refine ⟨a, l', n, _, rfl, rfl, rfl, Sto.set_self _ _ _, by (first | lia | omega), by (first | lia | omega), by (first | lia | omega), ?_⟩
      walk_at "m"
      refine ⟨(n - 1) / 2, half_lt h, l'.set n (l'.getD ((n - 1) / 2) .none), by (first | lia | omega), by simpa using hl', fun d hd => ?_, by walk_at "lk", by walk_at "lk", by walk_at "lk", by walk_at "lk", by rw [Sto.set_set]; rfl, ?_⟩
      · rcases List.mem_or_eq_of_mem_set hd with hd | rfl
        · exact ht' _ hd
        · exact ht' _ (getD_mem (by (first | lia | omega)))
      · rw [← he]
        conv => rhs; rw [sdn, dif_pos h, hc]
        rfl
  · rw [if_neg (by simpa using h)]
    walk_at "m1"
    refine ex_setitem W.ok ?_ (by rfl)
    walk_at "m"
    refine ⟨a, l', n, _, rfl, rfl, rfl, Sto.set_self _ _ _, by (first | lia | omega), by (first | lia | omega), by (first | lia | omega), ?_⟩
    walk_at "m"
    rw [Sto.set_set]
    rw [← he, sdn, dif_neg h] at hk
    exact hk

theorem w_siftup_max {prog : Program} {w : World} {r0 : Shared} {σ : Sto} {a : Addr} {l : List D} {pos : Nat} {K : V → Sto → Prop} {t : Ty} (hl : σ a = some l) (hp : pos < l.length) (hz : l.length ≤ 1000) (ht : ∀ d ∈ l, Has t d)
    (hk : K (.d .none) (σ.set a (siftup gtD pos l))) : Fn (KP w) prog w r0 2 (t.depth + 6) 84 [.raw (.ref a), .d (.int pos)] σ K := by
  walk_at "go"
  walk_at "m"
  refine cl_len W.ok (Vw.p hl) (by (first | lia | omega)) ?_
  walk_at "m"
  refine op_itemN (Vw.p hl) hp (by (first | lia | omega)) ?_ (fun _ _ => rfl)
  walk_at "m"
  rw [dbl1 pos]
  refine ex_while (fun n ρ' σ' => E2 fun l' p => A7 (n = l.length - p) (p < l.length) (l'.length = l.length) (∀ d ∈ l', Has t d) (ρ' "heap" = some (.raw (.ref a))) (ρ' "pos" = some (.d (.int p))) (A6 (ρ' "childpos" = some (.d (.int (2 * p + 1 : Nat)))) (ρ' "startpos" = some (.d (.int pos))) (ρ' "endpos" = some (.d (.int l.length))) (ρ' "newitem" = some (.d (l.getD pos .none))) (σ' = σ.set a l') (sup gtD l.length p l' = sup gtD l.length pos l))) ?_ (l.length - pos) ⟨l, pos, rfl, hp, rfl, ht, by walk_at "lk", by walk_at "lk", by walk_at "lk", by walk_at "lk", by walk_at "lk", by walk_at "lk", (Sto.set_same σ hl).symm, rfl⟩
  rintro n ρ' σ' ⟨l', p, hn, hpl, hl', ht', e1, e2, e3, e4, e5, e6, rfl, he⟩ KB hKB
  walk_at "m"
  (first | refine op_lt_int W.ok ⟨_, rfl, ?_⟩ | refine ⟨_, rfl, ?_⟩)
  have hi : σ.set a l' a = some l' := Sto.set_self _ _ _
  by_cases h : 2 * p + 1 < l.length
  · rw [if_pos (by rw [decide_eq_true_eq]; (first | lia | omega))]
    walk_at "m1"
    walk_at "m1"
    walk_at "m1"
    walk_at "m1"
    walk_at "m1"
    walk_at "m1"
    rw [show (((2 * p + 1 : Nat) : Int) + 1) = ((2 * p + 2 : Nat) : Int) from by (first | lia | omega)]
    have hcl := supC_lt gtD l' h
    refine ex_if_join (fun ρ2 σ2 => σ2 = σ.set a l' ∧ ρ2 "heap" = some (.raw (.ref a)) ∧ ρ2 "pos" = some (.d (.int p)) ∧ ρ2 "childpos" = some (.d (.int (supC gtD l.length p l' : Nat))) ∧ ρ2 "startpos" = some (.d (.int pos)) ∧ ρ2 "endpos" = some (.d (.int l.length)) ∧ ρ2 "newitem" = some (.d (l.getD pos .none))) ?_ ?_
    · have stay : supC gtD l.length p l' = 2 * p + 1 → (σ.set a l' = σ.set a l' ∧ (ρ'.set "rightpos" (.d (.int (2 * p + 2 : Nat)))) "heap" = some (.raw (.ref a)) ∧ (ρ'.set "rightpos" (.d (.int (2 * p + 2 : Nat)))) "pos" = some (.d (.int p)) ∧ (ρ'.set "rightpos" (.d (.int (2 * p + 2 : Nat)))) "childpos" = some (.d (.int (supC gtD l.length p l' : Nat))) ∧ (ρ'.set "rightpos" (.d (.int (2 * p + 2 : Nat)))) "startpos" = some (.d (.int pos)) ∧ (ρ'.set "rightpos" (.d (.int (2 * p + 2 : Nat)))) "endpos" = some (.d (.int l.length)) ∧ (ρ'.set "rightpos" (.d (.int (2 * p + 2 : Nat)))) "newitem" = some (.d (l.getD pos .none))) := fun q => by
        rw [q]
        exact ⟨rfl, by walk_at "lk", by walk_at "lk", by walk_at "lk", by walk_at "lk", by walk_at "lk", by walk_at "lk"⟩
      walk_at "m"
      (first | refine op_lt_int W.ok ⟨_, rfl, ?_⟩ | refine ⟨_, rfl, ?_⟩)
      by_cases h2 : 2 * p + 2 < l.length
      · rw [if_pos (by rw [decide_eq_true_eq]; (first | lia | omega))]
        walk_at "m"
        refine op_itemN (Vw.p hi) (by (first | lia | omega)) (by (first | lia | omega)) ?_ (fun _ _ => rfl)
        walk_at "m"
        refine op_itemN (Vw.p hi) (by (first | lia | omega)) (by (first | lia | omega)) ?_ (fun _ _ => rfl)
        refine op_cmp_lt (Vw.d _) (Vw.d _) (ht' _ (getD_mem (by (first | lia | omega)))) (ht' _ (getD_mem (by (first | lia | omega)))) (by have := W.u; (first | lia | omega)) ⟨_, rfl, ?_⟩
        show if (!gtD (l'.getD (2 * p + 1) .none) (l'.getD (2 * p + 2) .none)) = true then _ else _
        cases hc : gtD (l'.getD (2 * p + 1) .none) (l'.getD (2 * p + 2) .none)
        · have q : supC gtD l.length p l' = 2 * p + 2 := by unfold supC; rw [if_pos ⟨h2, hc⟩]
          walk_at "m"
          refine ⟨rfl, ?_⟩
          rw [q]
          exact ⟨rfl, by walk_at "lk", by walk_at "lk", by walk_at "lk", by walk_at "lk", by walk_at "lk", by walk_at "lk"⟩
        · walk_at "m"
          refine stay ?_
          unfold supC; rw [if_neg (fun z => by rw [hc] at z; cases z.2)]
      · rw [if_neg (by rw [decide_eq_true_eq]; (first | lia | omega))]
        walk_at "m"
        refine stay ?_
        unfold supC; rw [if_neg (fun z => h2 z.1)]
    · rintro ρ2 σ2 ⟨rfl, g1, g2, g3, g4, g5, g6⟩
      walk_at "m1"
      refine ex_setitem W.ok ?_ (by rfl)
      walk_at "m"
      refine op_itemN (Vw.p hi) (by (first | lia | omega)) (by (first | lia | omega)) ?_ (fun _ _ => rfl)
      walk_at "m"
      refine ⟨a, l', p, _, rfl, rfl, rfl, hi, by (first | lia | omega), by (first | lia | omega), by (first | lia | omega), ?_⟩
      walk_at "m"
      rw [dbl1]
      refine ⟨l.length - supC gtD l.length p l', by (first | lia | omega), l'.set p (l'.getD (supC gtD l.length p l') .none), supC gtD l.length p l', rfl, by (first | lia | omega), by simpa using hl', fun d hd => ?_, by walk_at "lk", by walk_at "lk", by walk_at "lk", by walk_at "lk", by walk_at "lk", by walk_at "lk", by rw [Sto.set_set]; rfl, ?_⟩
      · rcases List.mem_or_eq_of_mem_set hd with hd | rfl
        · exact ht' _ hd
        · exact ht' _ (getD_mem (by (first | lia | omega)))
      · rw [← he]
        conv => rhs; rw [sup, dif_pos h]
  · rw [if_neg (by rw [decide_eq_true_eq]; (first | lia | omega))]
    walk_at "m"
    refine ex_setitem W.ok ?_ (by rfl)
    walk_at "m"
    refine ⟨a, l', p, _, rfl, rfl, rfl, hi, by (first | lia | omega), by (first | lia | omega), by (first | lia | omega), ?_⟩
    walk_at "m"
    have hs : sup gtD l.length pos l = (p, l') := by rw [← he, sup, dif_neg h]
    refine W.fn (w_siftdown_max (t := t) (l := l'.set p (l.getD pos .none)) (Sto.set_self _ _ _) (by rw [List.length_set]; (first | lia | omega)) (by rw [List.length_set]; (first | lia | omega)) (fun d hd => ?_) ?_) (Nat.le_refl _) (by (first | lia | omega))
    · rcases List.mem_or_eq_of_mem_set hd with hd | rfl
      · exact ht' _ hd
      · exact ht _ (getD_mem hp)
    · refine ⟨rfl, ?_⟩
      walk_at "m"
      simp only [Sto.set_set]
      unfold siftup at hk
      rw [hs] at hk
      exact hk

theorem w_heapify_max {prog : Program} {w : World} {r0 : Shared} {σ : Sto} {a : Addr} {l : List D} {K : V → Sto → Prop} {t : Ty} (hl : σ a = some l) (hz : l.length < 1000) (ht : ∀ d ∈ l, Has t d)
    (hm : ∀ (l : List D) p, p < l.length → (∀ d ∈ l, Has t d) → ∀ d ∈ siftup gtD p l, Has t d)
    (hk : K (.d .none) (σ.set a (hfy gtD (l.length / 2) l))) : Fn (KP w) prog w r0 3 (t.depth + 9) 56 [.raw (.ref a)] σ K := by
  walk_at "go"
  walk_at "m"
  refine cl_len W.ok (Vw.p hl) (by (first | lia | omega)) ?_
  walk_at "m1"
  refine ex_forR W.ok (.loc (kof W.s (by rfl))) (kof W.s (by rfl)) (nof W.k (by rfl)) (kof W.s (by rfl)) (nof W.k (by rfl)) (by rfl) (by rfl) ?_
  walk_at "m"
  rw [show Int.fdiv (l.length : Int) 2 = ((l.length / 2 : Nat) : Int) from by rw [show (2 : Int) = ((2 : Nat) : Int) from rfl, ← Int.ofNat_fdiv]]
  refine ⟨l.length / 2, fun pre ρ' σ' => ∃ l', A5 (ρ' "x" = some (.raw (.ref a))) (l'.length = l.length) (∀ d ∈ l', Has t d) (σ' = σ.set a l') (hfy gtD (l.length / 2 - pre.length) l' = hfy gtD (l.length / 2) l), rfl, by (first | lia | omega), ⟨l, by walk_at "lk", rfl, ht, (Sto.set_same σ hl).symm, rfl⟩, ?_, ?_⟩
  · rintro pre d post ρ' σ' hd ⟨l', e1, hl', ht', rfl, he⟩ KB hKB
    have hlen : pre.length < l.length / 2 := by
      have := congrArg List.length hd
      simp [down] at this; (first | lia | omega)
    have hdv : d = .int (((l.length / 2 - 1 - pre.length : Nat)) : Int) := by
      have h1 : (down (l.length / 2))[pre.length]? = some d := by rw [hd]; simp
      unfold down at h1
      rw [List.getElem?_map, List.getElem?_range hlen] at h1
      simp only [Option.map_some, Option.some.injEq] at h1
      rw [← h1]; congr 1; (first | lia | omega)
    subst hdv
    walk_at "m"
    refine W.fn (w_siftup_max (t := t) (l := l') (Sto.set_self _ _ _) (by (first | lia | omega)) (by (first | lia | omega)) ht' ?_) (Nat.le_refl _) (Nat.le_refl _)
    refine ⟨rfl, ?_⟩
    walk_at "m"
    refine ⟨siftup gtD (l.length / 2 - 1 - pre.length) l', by walk_at "lk", by rw [siftup_length]; exact hl', hm _ _ (by (first | lia | omega)) ht', by rw [Sto.set_set], ?_⟩
    rw [← he, List.length_append, List.length_singleton]
    conv => rhs; rw [show l.length / 2 - pre.length = (l.length / 2 - 1 - pre.length) + 1 from by (first | lia | omega), hfy]
    rw [show l.length / 2 - (pre.length + 1) = l.length / 2 - 1 - pre.length from by (first | lia | omega)]
  · rintro ρ' σ' ⟨l', e1, hl', ht', rfl, he⟩
    walk_at "m"
    rw [show l.length / 2 - (down (l.length / 2)).length = 0 from by simp [down], hfy] at he
    rw [he]
    exact hk

theorem w_heapreplace_max {prog : Program} {w : World} {r0 : Shared} {σ : Sto} {a : Addr} {l : List D} {x : D} {K : V → Sto → Prop} {t : Ty} (hl : σ a = some l) (h0 : 0 < l.length) (hz : l.length < 1000) (ht : ∀ d ∈ l, Has t d) (hx : Has t x)
    (hk : K (.d (l.getD 0 .none)) (σ.set a (hrep gtD l x))) : Fn (KP w) prog w r0 3 (t.depth + 9) 49 [.raw (.ref a), .d x] σ K := by
  walk_at "go"
  walk_at "m"
  refine op_itemN (i := 0) (Vw.p hl) h0 (by (first | lia | omega)) ?_ (fun _ _ => rfl)
  walk_at "m"
  refine ex_setitem W.ok ?_ (by rfl)
  walk_at "m"
  refine ⟨a, l, 0, _, rfl, rfl, rfl, hl, by (first | lia | omega), by (first | lia | omega), by (first | lia | omega), ?_⟩
  walk_at "m"
  refine W.fn (w_siftup_max (t := t) (pos := 0) (l := l.set 0 x) (Sto.set_self _ _ _) (by simpa using h0) (by simp; (first | lia | omega)) (mem_set_of ht hx) ?_) (Nat.le_refl _) (Nat.le_refl _)
  refine ⟨rfl, ?_⟩
  walk_at "m"
  simp only [Sto.set_set]
  exact hk
end Mine
namespace Mine
open PySem.SeqAt Classical


section
variable {c : Cx} {Z Y : Zone} {ρ : Vars} {σ : Sto} {s : Shared} {K : V → Sto → Prop} {pos p1 p2 : Pos}
theorem pyIter_tupleiter {prog : Program} {w : World} {A : Around} {E : Value → Shared → Prop} {it l : Addr} {i : Nat} {Q : Value → Shared → Prop} (hit : s.heap.IsTupleIter it l i) (h : Q (.ref it) s) :
    wpAny (model prog w) A (pyIter (.ref it)) Q E s := wpAny_pyIter_tupleiter hit h
theorem comp_loopT (hk : c.Ok) {elt iter : Expr} {x : String} {px : Pos} {ifs : List Expr} {scope : Scope} {cl : List (Str × Addr)} {C D0 I0 a : Addr} {items : List D} {vs : List Value} {n : Nat} {R : Result → Shared → Prop}
    (hc : Clos c scope cl) (hx : scope.names.lookup (Str.ofString x) = some .local) (S : St c Z Y ρ σ s) (ha : Z a = some (tobj vs n)) (r : Rvs Z vs items) (hz : items.length ≤ 1000000)
    (hI : s.heap.IsTupleIter I0 a 0) (hD : s.heap.get? D0 = some (lobj [] 0)) (hC : ∃ m, s.heap.Ns C m) (aI : Apart c Z Y σ I0) (aD : Apart c Z Y σ D0) (aC : Apart c Z Y σ C) (nDI : D0 ≠ I0) (nCI : C ≠ I0) (nCD : C ≠ D0)
    (I : List D → List D → Sto → Prop) (h0 : I [] [] σ)
    (turn : ∀ pre d post acc σ, items = pre ++ d :: post → I pre acc σ → acc.length ≤ pre.length → Ifs (cc c scope cl C) ((seen cl ρ).set x (.d d)) σ ifs fun b σ1 => if b = true then Ev (cc c scope cl C) ((seen cl ρ).set x (.d d)) σ1 elt fun v σ2 => ∃ e, v = .d e ∧ I (pre ++ [d]) (acc ++ [e]) σ2 else I (pre ++ [d]) acc σ1)
    (fin : ∀ Z' σ' s' ws m acc, Ext Z Z' → St c Z' Y ρ σ' s' → s'.heap.get? D0 = some (lobj ws m) → Rvs Z' ws acc → Apart c Z' Y σ' D0 → (∃ m, s'.heap.Ns C m) → Apart c Z' Y σ' C → acc.length ≤ items.length → I items acc σ' → R (.ok .next) s') :
    codeAny (model c.prog c.w) c.A (.compLoop (.ListComp elt [⟨.Name (Str.ofString x) px, iter, ifs, 0⟩] scope pos) 0 (.ref I0) (.ref D0) (compEnvC scope cl C c.env)) R s := by
  refine codeAny_compLoop_tests (fun k s' => E4 fun Z' σ' pre post => E3 fun acc ws m => A7 (items = pre ++ post) (k = post.length) (Ext Z Z') (St c Z' Y ρ σ' s') (I pre acc σ') (acc.length ≤ pre.length) (A7 (s'.heap.IsTupleIter I0 a pre.length) (s'.heap.get? D0 = some (lobj ws m)) (Rvs Z' ws acc) (∃ m, s'.heap.Ns C m) (Apart c Z' Y σ' I0) (Apart c Z' Y σ' D0) (Apart c Z' Y σ' C))) ?_ items.length
    ⟨Z, σ, [], items, [], [], 0, rfl, rfl, Ext.refl Z, S, h0, Nat.le_refl _, hI, hD, .nil, hC, aI, aD, aC⟩
  rintro k s1 q2_
  refine hide fun P_ hP_ => ?_
  obtain ⟨Z1, σ1, pre, post, acc, ws, m, hi, hkk, x1, S1, h1, hal, wI, wD, rA, wC, bI, bD, bC⟩ := q2_
  refine hP_ ?_
  clear hP_ P_
  have hl : s1.heap.IsTuple a vs.toArray := isTup_of S1.g.keep (x1 _ _ ha)
  have hvl : vs.length = items.length := r.length
  cases post with
  | nil =>
    have hi' : items = pre := by rw [hi]; simp
    refine wpAny_pyNext_tuple_end hk.hand wI hl (by rw [List.getElem?_toArray]; simp; rw [hvl, hi']; exact Nat.le_refl _) fun h' he => ?_
    have S2 := S1.keepBut hk (tk := s1.toks) (h' := h') (wr := [I0]) (mem1 bI) fun b o hb e => he b o (ne_mem1 hb) e
    refine fin Z1 σ1 _ ws m acc x1 S2 (he _ _ nDI wD) rA bD ?_ bC (by rw [hi']; exact hal) (hi' ▸ h1)
    refine hide fun P_ hP_ => ?_
    obtain ⟨m2, o, es, ep, e, rr⟩ := wC
    refine hP_ ?_
    clear hP_ P_
    exact ⟨m2, o, es, ep, he _ _ nCI e, rr⟩
  | cons d post =>
    have hd : items[pre.length]? = some d := by rw [hi]; simp
    refine hide fun P_ hP_ => ?_
    obtain ⟨v, hv, rv⟩ := r.get hd
    refine hP_ ?_
    clear hP_ P_
    refine wpAny_pyNext_tuple_item wI hl (x := v) (by rw [List.getElem?_toArray]; exact hv) fun h' w4 sb => ?_
    have S2 := S1.keepBut hk (tk := s1.toks) (h' := h') (wr := [I0]) (mem1 bI) fun b o hb e => (sb.2 b (ne_mem1 hb)).trans e
    obtain ⟨mC, hnC⟩ := wC
    have hnC2 : h'.Ns C mC := hnC.sameBut sb nCI
    have hD2 : h'.get? D0 = some (lobj ws m) := (sb.2 _ nDI).trans wD
    refine wpAny_assign_Name (wpAny_storeName_local (env := compEnvC scope cl C c.env) (m := mC) (Clos.kidLocal (c := c) (cl := cl) (C := C) hx) hnC2 (fun h3 hn3 sb3 => ?_) (by simp [compEnvC, relabel, hc.kind]))
    have S3 : St c Z1 Y ρ σ1 { s1 with heap := h3, toks := s1.toks + 1 } := S2.keepBut hk (tk := s1.toks + 1) (h' := h3) (wr := [C]) (mem1 bC) fun b o hb e => (sb3.2 b (ne_mem1 hb)).trans e
    have hD3 : h3.get? D0 = some (lobj ws m) := (sb3.2 _ (Ne.symm nCD)).trans hD2
    have w5 : h3.IsTupleIter I0 a (pre.length + 1) := by
      refine hide fun P_ hP_ => ?_
      obtain ⟨o, ho, rr⟩ := w4
      refine hP_ ?_
      clear hP_ P_
      exact ⟨o, (sb3.2 _ (Ne.symm nCI)).trans ho, rr⟩
    have hH : ∀ b ∈ [D0, I0], Apart c Z1 Y σ1 b := mem2 (bD) (bI)
    have hex : ∀ b ∈ [D0, I0], ∃ o, h3.get? b = some o := mem2 (⟨_, hD3⟩) (let ⟨o, ho, _⟩ := w5; ⟨o, ho⟩)
    have hCH : C ∉ [D0, I0] := by simp [nCD, nCI]
    have rd : RV Z1 v (.d d) := rv.mono x1
    have SK := S3.kid hk hc hx hn3 (by simp) rd bC hH hCH
    refine turn pre d post acc σ1 hi h1 hal Z1 _ _ _ _ SK fun Z4 b σ4 s4 x4 k4 S4 => ?_
    have key : ∀ {Z5 : Zone} {σ5 : Sto} {ρ5 : Vars} {s5 : Shared}, Ext Z1 Z5 → St (cc c scope cl C) Z5 (holdY [D0, I0] (St.lend c Y { s1 with heap := h3, toks := s1.toks + 1 }) { s1 with heap := h3, toks := s1.toks + 1 }) ρ5 σ5 s5 →
        St c Z5 Y ρ σ5 s5 ∧ s5.heap.IsTupleIter I0 a (pre.length + 1) ∧ s5.heap.get? D0 = some (lobj ws m) ∧ (∃ m, s5.heap.Ns C m) ∧ Apart c Z5 Y σ5 I0 ∧ Apart c Z5 Y σ5 D0 ∧ Apart c Z5 Y σ5 C := by
      intro Z5 σ5 ρ5 s5 x5 S5
      refine hide fun P_ hP_ => ?_
      obtain ⟨g1, g2, g3, g4, g5⟩ := S3.unkid hk x5 bC hH hex S5
      refine hP_ ?_
      clear hP_ P_
      refine ⟨g1, ?_, g4 _ (.head _) _ hD3, g5, g3 _ (.tail _ (.head _)), g3 _ (.head _), g2⟩
      refine hide fun P_ hP_ => ?_
      obtain ⟨o, ho, rr⟩ := w5
      refine hP_ ?_
      clear hP_ P_
      exact ⟨o, g4 _ (.tail _ (.head _)) _ ho, rr⟩
    cases b with
    | false =>
      simp only [Bool.false_eq_true, if_false] at k4 ⊢
      refine hide fun P_ hP_ => ?_
      obtain ⟨g1, g2, g3, g4, g5, g6, g7⟩ := key x4 S4
      refine hP_ ?_
      clear hP_ P_
      exact ⟨post.length, by rw [hkk]; simp, Z4, σ4, pre ++ [d], post, acc, ws, m, by rw [hi]; simp, rfl, x1.trans x4, g1, k4, by rw [List.length_append, List.length_singleton]; (first | lia | omega), by rw [List.length_append, List.length_singleton]; exact g2, g3, rA.mono x4, g4, g5, g6, g7⟩
    | true =>
      simp only [if_true] at k4 ⊢
      refine k4 Z4 _ s4 _ _ S4 fun Z5 u w σ5 s5 x5 r5 k5 S5 => ?_
      refine hide fun P_ hP_ => ?_
      obtain ⟨e, rfl, k5⟩ := k5
      refine hP_ ?_
      clear hP_ P_
      refine hide fun P_ hP_ => ?_
      obtain ⟨g1, g2, g3, g4, g5, g6, g7⟩ := key (x4.trans x5) S5
      refine hP_ ?_
      clear hP_ P_
      have hpl : pre.length ≤ items.length := by rw [hi]; simp
      refine lobj_append g3 (by rw [rA.length]; (first | lia | omega)) fun h6 n6 e6 sb6 => ?_
      have S6 := g1.keepBut hk (tk := s5.toks) (h' := h6) (wr := [D0]) (mem1 g6) fun b o hb e => (sb6.2 b (ne_mem1 hb)).trans e
      refine ⟨post.length, by rw [hkk]; simp, Z5, σ5, pre ++ [d], post, acc ++ [e], ws ++ [u], n6, by rw [hi]; simp, rfl, (x1.trans x4).trans x5, S6, k5, by simp; exact hal, ?_, e6, (rA.mono (x4.trans x5)).append (.cons r5 .nil), ?_, g5, g6, g7⟩
      · rw [List.length_append, List.length_singleton]
        refine hide fun P_ hP_ => ?_
        obtain ⟨o, ho, rr⟩ := g2
        refine hP_ ?_
        clear hP_ P_
        exact ⟨o, (sb6.2 _ (Ne.symm nDI)).trans ho, rr⟩
      · obtain ⟨m7, h7⟩ := g4
        exact ⟨m7, h7.sameBut sb6 nCD⟩

/-- what a comprehension asks -/
def CompT (c : Cx) (ρ : Vars) (σ1 : Sto) (x : String) (elt : Expr) (ifs : List Expr) (scope : Scope) (cl : List (Str × Addr)) (v : V) (Fin : List D → Sto → Prop) : Prop :=
  E2 fun (items : List D) (I : List D → List D → Sto → Prop) => A5 (v = .d (.tup items)) (items.length ≤ 1000000) (I [] [] σ1) (∀ C pre d post acc σ, (cc c scope cl C).Ok → items = pre ++ d :: post → I pre acc σ → acc.length ≤ pre.length → Ifs (cc c scope cl C) ((seen cl ρ).set x (.d d)) σ ifs fun b σ1 => if b = true then Ev (cc c scope cl C) ((seen cl ρ).set x (.d d)) σ1 elt fun v σ2 => ∃ e, v = .d e ∧ I (pre ++ [d]) (acc ++ [e]) σ2 else I (pre ++ [d]) acc σ1) (∀ acc σ2, I items acc σ2 → acc.length ≤ items.length → Fin acc σ2)

theorem comp_blockT (hk : c.Ok) {elt iter : Expr} {x : String} {px : Pos} {ifs : List Expr} {scope : Scope} {cl : List (Str × Addr)} {a : Addr} {items : List D} {vs : List Value} {n : Nat} {X : Value → Shared → Prop} {RR : Value → Addr → Result → Shared → Prop}
    (hc : Clos c scope cl) (hx : scope.names.lookup (Str.ofString x) = some .local) (S : St c Z Y ρ σ s) (ha : Z a = some (tobj vs n)) (r : Rvs Z vs items) (hz : items.length ≤ 1000000)
    (I : List D → List D → Sto → Prop) (h0 : I [] [] σ)
    (turn : ∀ C pre d post acc σ, (cc c scope cl C).Ok → items = pre ++ d :: post → I pre acc σ → acc.length ≤ pre.length → Ifs (cc c scope cl C) ((seen cl ρ).set x (.d d)) σ ifs fun b σ1 => if b = true then Ev (cc c scope cl C) ((seen cl ρ).set x (.d d)) σ1 elt fun v σ2 => ∃ e, v = .d e ∧ I (pre ++ [d]) (acc ++ [e]) σ2 else I (pre ++ [d]) acc σ1)
    (fin : ∀ D0 C Z' σ' s' ws m acc, Ext Z Z' → St c Z' Y ρ σ' s' → s'.heap.get? D0 = some (lobj ws m) → Rvs Z' ws acc → Apart c Z' Y σ' D0 → (∃ m, s'.heap.Ns C m) → Apart c Z' Y σ' C → C ≠ D0 → acc.length ≤ items.length → I items acc σ' → RR (.ref D0) C (.ok .next) s') :
    wpAny (model c.prog c.w) c.A (pyIter (.ref a)) (fun it s₂ => wpAny (model c.prog c.w) c.A (newList []) (fun acc s₃ => wpAny (model c.prog c.w) c.A (newFunctionEnv scope c.env.globals cl [] c.env.qual none .none (some c.env)) (fun cenv s₄ =>
      codeAny (model c.prog c.w) c.A (.compStart (.ListComp elt [⟨.Name (Str.ofString x) px, iter, ifs, 0⟩] scope pos) 0 it acc { cenv with scope := relabel scope c.env }) (RR acc cenv.locals) s₄) X s₃) X s₂) X s := by
  refine wpAny_pyIter_tuple (isTup_of S.g.keep ha) ?_
  refine wpAny_newObj_type (wpAny_newFunctionEnv hc.cell (by intro y hy; simp at hy) (fun h₁ hns₁ hsb₁ => ?_) hc.kind)
  dsimp only at hns₁ hsb₁ ⊢
  have z1 : (s.heap.push { cls := .type "tuple_iterator", data := .fields #[.ref a, .int 0 0] }).objs.size = s.heap.objs.size + 1 := Heap.size_push ..
  generalize hH1 : s.heap.push { cls := .type "tuple_iterator", data := .fields #[.ref a, .int 0 0] } = H1 at hns₁ hsb₁ z1 ⊢
  have z2 : (H1.push { cls := .type "list", dict := none, data := .seq ([] : List Value).toArray }).objs.size = s.heap.objs.size + 2 := by rw [Heap.size_push, z1]
  generalize hH2 : H1.push { cls := .type "list", dict := none, data := .seq ([] : List Value).toArray } = H2 at hns₁ hsb₁ z2 ⊢
  have fr : ∀ k, s.heap.get? (s.heap.objs.size + k) = none := fun k => Heap.get?_none_of_le (Nat.le_add_right _ _)
  have k1 : ∀ b o, s.heap.get? b = some o → H1.get? b = some o := fun b o e => hH1 ▸ Heap.get?_push_of_some _ e
  have k2 : ∀ b o, H1.get? b = some o → H2.get? b = some o := fun b o e => hH2 ▸ Heap.get?_push_of_some _ e
  have k3 : ∀ b o, b ≠ H2.objs.size → H2.get? b = some o → h₁.get? b = some o := fun b o hb e => hsb₁.extBut _ _ hb (Heap.get?_push_of_some _ e)
  have kk : ∀ b o, s.heap.get? b = some o → h₁.get? b = some o := fun b o e => k3 b o (by rw [z2]; exact Nat.ne_of_lt (Nat.lt_of_lt_of_le (Heap.lt_size e) (Nat.le_add_right _ _))) (k2 _ _ (k1 _ _ e))
  have S1 := S.grow hk (tk := s.toks + ([] : List (Str × Value)).length) kk
  have hI : h₁.IsTupleIter s.heap.objs.size a 0 := ⟨_, k3 _ _ (by rw [z2]; (first | lia | omega)) (k2 _ _ (hH1 ▸ get_push rfl)), rfl, rfl⟩
  have hD : h₁.get? H1.objs.size = some (lobj [] 0) := k3 _ _ (by rw [z1, z2]; (first | lia | omega)) (hH2 ▸ get_push rfl)
  have aI : Apart c Z Y σ s.heap.objs.size := Apart.fresh S (fr 0)
  have aD : Apart c Z Y σ H1.objs.size := by rw [z1]; exact Apart.fresh S (fr 1)
  have aC : Apart c Z Y σ H2.objs.size := by rw [z2]; exact Apart.fresh S (fr 2)
  have ok := cc_ok hk hc aC.c
  have loop : codeAny (model c.prog c.w) c.A (.compLoop (.ListComp elt [⟨.Name (Str.ofString x) px, iter, ifs, 0⟩] scope pos) 0 (.ref s.heap.objs.size) (.ref H1.objs.size) (compEnvC scope cl H2.objs.size c.env)) (RR (.ref H1.objs.size) H2.objs.size) { s with heap := h₁, toks := s.toks + ([] : List (Str × Value)).length } :=
    comp_loopT hk hc hx S1 ha r hz hI hD ⟨_, hns₁⟩ aI aD aC (by rw [z1]; exact neN (by (first | lia | omega))) (by rw [z2]; exact neN (by (first | lia | omega))) (by rw [z1, z2]; exact neN (by (first | lia | omega))) I h0 (fun pre d post acc σ' hi => turn _ pre d post acc σ' ok hi)
      fun Z' σ' s' ws m acc x2 S' e1 e2 e3 e4 e5 e6 e7 => fin _ _ Z' σ' s' ws m acc x2 S' e1 e2 e3 e4 e5 (by rw [z1, z2]; exact neN (by (first | lia | omega))) e6 e7
  exact codeAny_compStart_list loop (pyIter_tupleiter hI loop)

theorem ex_assign_compT (hk : c.Ok) {y : String} {elt iter : Expr} {x : String} {px : Pos} {ifs : List Expr} {scope : Scope} {cl : List (Str × Addr)} {K : Fl → Vars → Sto → Prop} (hc : Clos c scope cl) (hx : scope.names.lookup (Str.ofString x) = some .local)
    (hy : c.env.kindOf (Str.ofString y) = some .local) (hsw : swapsWith (.ListComp elt [⟨.Name (Str.ofString x) px, iter, ifs, 0⟩] scope p2) (some (.Name (Str.ofString y) p1)) pos.line c.env = pure true)
    (h : Ev c ρ σ iter fun v σ1 => CompT c ρ σ1 x elt ifs scope cl v (fun acc σ2 => NewL (fun v σ3 => K .next (ρ.set y v) σ3) σ2 acc)) (hs : ∀ x, foldedSetIterable iter c.env x = pure x) :
    Ex1 c ρ σ (.Assign [.Name (Str.ofString y) p1] (.ListComp elt [⟨.Name (Str.ofString x) px, iter, ifs, 0⟩] scope p2) pos) K := fun Z Y s Q X S q => by
  rw [exec_Assign_Name_used _ _ _ _ hsw]
  refine wpAny_bind (wpAny_standAt (wpAny_bind ?_))
  show wpAny _ c.A (do let _ ← comprehension (.ListComp elt [⟨.Name (Str.ofString x) px, iter, ifs, 0⟩] scope p2) scope c.env _ (newList []) false (eval iter c.env) (some (assign (.Name (Str.ofString y) p1) c.env))) _ _ s
  refine wpAny_bind (wpAny_mono (wpAny_comprehension_free (use := some (assign (.Name (Str.ofString y) p1) c.env)) (Q := fun _ s' => Q .next s') rfl hs hc.clos hc.kind hc.names
    (h Z Y s _ X S fun Z1 u v σ1 s1 x1 r1 h1 S1 => ?_)) (fun _ s' hq => wpAny_pure (wpAny_pure hq)) fun _ _ e => e)
  refine hide fun P_ hP_ => ?_
  obtain ⟨items, I, rfl, hz, h0, turn, done⟩ := h1
  refine hP_ ?_
  clear hP_ P_
  cases r1 using Rv.tupE with
  | tup e r =>
    refine comp_blockT (RR := fun acc C => compPost (model c.prog c.w) c.A X (some (assign (.Name (Str.ofString y) p1) c.env)) (fun _ s' => Q .next s') acc C) hk hc hx S1 e r hz I h0 turn fun D0 C Z' σ' s' ws m acc x2 S' e1 e2 e3 e4 e5 e6 e7 e8 => ?_
    refine hide fun P_ hP_ => ?_
    obtain ⟨Z3, v, σ3, x3, rv, kv, S3, ap⟩ := S'.joinL hk e3 e1 e2 (done acc σ' e8 e7)
    refine hP_ ?_
    clear hP_ P_
    show wpAny _ c.A (assign (.Name (Str.ofString y) p1) c.env (.ref D0)) _ _ _
    have aC : Apart c Z3 Y σ3 C := ap C e6 e5
    have hA : ∀ b ∈ [C], Apart c Z3 Y σ3 b := mem1 aC
    refine hide fun P_ hP_ => ?_
    obtain ⟨m', oC, es, ep, e9, rr⟩ := e4
    refine hP_ ?_
    clear hP_ P_
    refine wpAny_assign_Name (store_local hk hy (S3.hold hA) rv fun s4 S4 => ?_)
    refine ⟨m', ⟨oC, es, ep, (S4.g.held (.head _) e9).2.2, rr⟩, fun h' sb => ?_⟩
    have S5 := S3.unhold hA S4
    have S6 := S5.keepBut hk (tk := s4.toks) (h' := h') (wr := [C]) (Apart.after hA S4 (mem1 ⟨_, e9⟩)) fun b o hb e => (sb.2 b (ne_mem1 hb)).trans e
    exact q Z3 _ _ _ σ3 _ ((x1.trans x2).trans x3) .next kv S6

/-- a list of the store is frozen -/
theorem tr_freeze (hk : c.Ok) {t : Sem Value} (h : Tr c ρ σ t fun v σ1 => E2 fun a l => A3 (v = .raw (.ref a)) (σ1 a = some l) (K (.d (.lst l)) (σ1.del a))) : Tr c ρ σ t K := fun Z Y s Q X S q =>
  h Z Y s Q X S fun Z1 u v σ1 s1 x1 r1 h1 S1 => by
    refine hide fun P_ hP_ => ?_
    obtain ⟨a, l, rfl, ha, k⟩ := h1
    refine hP_ ?_
    clear hP_ P_
    (first | cases r1 using Rv.intE | cases r1 using Rv.boolE | cases r1 using Rv.noneE | cases r1 using Rv.lstE | cases r1 using Rv.tupE | cases r1 using RVs.nilE | cases r1 using Rvs.nilE | cases r1)
    refine hide fun P_ hP_ => ?_
    obtain ⟨Z2, x2, r2, S2⟩ := S1.freeze hk ha
    refine hP_ ?_
    clear hP_ P_
    exact q Z2 _ (.d (.lst l)) _ s1 (x1.trans x2) r2 k S2
theorem ev_freeze (hk : c.Ok) {e : Expr} (h : Ev c ρ σ e fun v σ1 => E2 fun a l => A3 (v = .raw (.ref a)) (σ1 a = some l) (K (.d (.lst l)) (σ1.del a))) : Ev c ρ σ e K := tr_freeze hk h
theorem op_eq_int {i j : Int} (hu : c.A.units + 1 < cLine) (h : K (.d (.bool (decide (i = j)))) σ) : Op2 c ρ σ (compareOp .Eq) (.d (.int i)) (.d (.int j)) K := by
  refine op_cmp_eq (Vw.d _) (Vw.d _) (t := .int) (by simp [Has]) (by simp [Has]) (by simp [Ty.depth]; (first | lia | omega)) ?_
  have e : decide (D.int i = D.int j) = decide (i = j) := by simp
  rw [e]; exact h
theorem op_ne_int {i j : Int} (hu : c.A.units + 1 < cLine) (h : K (.d (.bool (!decide (i = j)))) σ) : Op2 c ρ σ (compareOp .NotEq) (.d (.int i)) (.d (.int j)) K := by
  refine op_cmp_ne (Vw.d _) (Vw.d _) (t := .int) (by simp [Has]) (by simp [Has]) (by simp [Ty.depth]; (first | lia | omega)) ?_
  have e : decide (D.int i = D.int j) = decide (i = j) := by simp
  rw [e]; exact h
theorem tr_forget (hk : c.Ok) {t : Sem Value} (h : Tr c ρ σ t fun v σ1 => ∃ σ2 : Sto, (∀ a l, σ2 a = some l → σ1 a = some l) ∧ K v σ2) : Tr c ρ σ t K := fun Z Y s Q X S q =>
  h Z Y s Q X S fun Z1 u v σ1 s1 x1 r1 h1 S1 => by
    refine hide fun P_ hP_ => ?_
    obtain ⟨σ2, hs, k⟩ := h1
    refine hP_ ?_
    clear hP_ P_
    exact q Z1 u v σ2 s1 x1 r1 k (S1.forget hk hs)
theorem ev_forget (hk : c.Ok) {e : Expr} (h : Ev c ρ σ e fun v σ1 => ∃ σ2 : Sto, (∀ a l, σ2 a = some l → σ1 a = some l) ∧ K v σ2) : Ev c ρ σ e K := tr_forget hk h
end
end Mine
namespace Mine
open PySem.SeqAt Classical


/-- the script: a list of ints that the state before the call holds -/
def Scr (r0 : Shared) (S : Addr) (ns : List Int) : Prop := ∃ vs : List Value, r0.heap.IsList S vs.toArray ∧ IntsAre vs ns
section
variable {c : Cx} {Z Y : Zone} {ρ : Vars} {σ : Sto} {s : Shared} {K : V → Sto → Prop} {pos p1 p2 : Pos} {S0 : Addr} {ns : List Int}
theorem Scr.at (h : Scr c.r0 S0 ns) (S : St c Z Y ρ σ s) : ∃ vs : List Value, A3 (s.heap.IsList S0 vs.toArray) (IntsAre vs ns) (Rvs Z vs (ns.map D.int)) := by
  refine hide fun P_ hP_ => ?_
  obtain ⟨vs, ⟨o, e, r⟩, hi⟩ := h
  refine hP_ ?_
  clear hP_ P_
  exact ⟨vs, ⟨o, S.g.keep _ _ (S.g.base _ _ e), r⟩, hi, IntsAre.rvs hi⟩
theorem cl_len_scr (hk : c.Ok) (hs : Scr c.r0 S0 ns) (hz : ns.length ≤ 1000000) (h : K (.d (.int ns.length)) σ) : Cl c ρ σ (.builtin "len") [.raw (.ref S0)] K := fun Z Y s Q X us S r q => by
  refine hide fun P_ hP_ => ?_
  obtain ⟨u, rfl, ru⟩ := rvs1 r
  refine hP_ ?_
  clear hP_ P_
  cases ru
  refine hide fun P_ hP_ => ?_
  obtain ⟨vs, h1, h2, h3⟩ := hs.at S
  refine hP_ ?_
  clear hP_ P_
  have hl := h3.length
  rw [List.length_map] at hl
  refine Calls.call_len_list h1 (by rw [List.size_toArray]; (first | lia | omega)) ?_
  rw [List.size_toArray, hl]
  exact q Z _ _ σ _ (Ext.refl Z) RV.int h (S.tok hk)
theorem cl_sum_scr (hk : c.Ok) (hs : Scr c.r0 S0 ns) (h : K (.d (.int ns.sum)) σ) : Cl c ρ σ (.builtin "sum") [.raw (.ref S0)] K := fun Z Y s Q X us S r q => by
  refine hide fun P_ hP_ => ?_
  obtain ⟨u, rfl, ru⟩ := rvs1 r
  refine hP_ ?_
  clear hP_ P_
  cases ru
  refine hide fun P_ hP_ => ?_
  obtain ⟨vs, h1, h2, h3⟩ := hs.at S
  refine hP_ ?_
  clear hP_ P_
  exact sum_raw hk.hand h1 h2 fun h' tk t' kk => q Z _ _ σ _ (Ext.refl Z) RV.int h (S.grow hk kk)
theorem ev_slice_scr {l : Expr} {up : Expr} (hk : c.Ok) (hs : Scr c.r0 S0 ns) (hz : ns.length ≤ 1000000)
    (h : Ev c ρ σ l fun v σ1 => Ev c ρ σ1 up fun v2 σ3 => ∃ b : Nat, A3 (v = .raw (.ref S0)) (v2 = .d (.int b)) (NewL K σ3 ((ns.take b).map D.int))) :
    Ev c ρ σ (.Subscript l (.Slice none (some up) none p1) pos) K := fun Z Y s Q X S q => by
  have h' : Ev c ρ σ l fun v σ1 => EvP c ρ σ1 none fun v1 σ2 => EvP c ρ σ2 (some up) fun v2 σ3 => EvP c ρ σ3 none fun v3 σ4 => v1 = .d .none ∧ v3 = .d .none ∧ ∃ b : Nat, A3 (v = .raw (.ref S0)) (v2 = .d (.int b)) (NewL K σ4 ((ns.take b).map D.int)) :=
    Tr.mono h fun v σ1 h1 => evp_none (evp_some (Tr.mono h1 fun v2 σ2 h2 => evp_none ⟨rfl, rfl, h2⟩))
  refine Subscript_ (h' Z Y s _ X S fun Z1 u σ_v σ1 s1 x1 r1 h1 S1 => wpAny_Slice (h1 Z1 Y s1 _ X S1 fun Z2 u2 v2 σ2 s2 x2 r2 h2 S2 => h2 Z2 Y s2 _ X S2 fun Z3 u3 v3 σ3 s3 x3 r3 h3 S3 => h3 Z3 Y s3 _ X S3 fun Z4 u4 v4 σ4 s4 x4 r4 h4 S4 => ?_))
  refine hide fun P_ hP_ => ?_
  obtain ⟨rfl, rfl, b, rfl, rfl, hn⟩ := h4
  refine hP_ ?_
  clear hP_ P_
  (first | cases r1 using Rv.intE | cases r1 using Rv.boolE | cases r1 using Rv.noneE | cases r1 using Rv.lstE | cases r1 using Rv.tupE | cases r1 using RVs.nilE | cases r1 using Rvs.nilE | cases r1)
  have q2 := Part.none.is ((r2.mono x3).mono x4)
  have q3 := (Part.int b).is (r3.mono x4)
  have q4 := Part.none.is r4
  refine hide fun P_ hP_ => ?_
  obtain ⟨vs, g1, g3, g2⟩ := hs.at S4
  refine hP_ ?_
  clear hP_ P_
  refine hide fun P_ hP_ => ?_
  obtain ⟨ws, e1, e2⟩ := pick_upto b Z4 vs g2
  refine hP_ ?_
  clear hP_ P_
  have hl : (s4.heap.push { cls := .type "slice", data := .fields #[u2, u3, u4] }).IsList S0 vs.toArray := g1.push _
  obtain ⟨ops, hss⟩ := subscripted_slice none (some up) none p1 (.ref S0) (.ref s4.heap.objs.size)
  have hlen := g2.length
  rw [List.length_map] at hlen
  refine tail_any (s := { s4 with heap := s4.heap.push { cls := .type "slice", data := .fields #[u2, u3, u4] } }) hl.typeIs slot_list_getitem.lookup (wpAny_getItem_list_slice hl (Heap.IsSliceOf.new ..) q2 q3 q4 (by simp) ?_ (by rw [sizeLine_eq]; simp; (first | lia | omega))) hss
  rw [e1]
  have f1 : ∀ b o, s4.heap.get? b = some o → ((s4.heap.push { cls := .type "slice", data := .fields #[u2, u3, u4] }).push (lobj ws 0)).get? b = some o := fun b o e => Heap.get?_push_of_some _ (Heap.get?_push_of_some _ e)
  rw [List.map_take] at hn
  obtain ⟨Z', v, σ', xx, rv, kv, S'⟩ := S4.newList hk (a := s4.heap.objs.size + 1) (tk := s4.toks) (n := 0) (h' := (s4.heap.push { cls := .type "slice", data := .fields #[u2, u3, u4] }).push (lobj ws 0))
    (Heap.get?_none_of_le (Nat.le_succ _)) f1 (by have := get_push (h := s4.heap.push { cls := .type "slice", data := .fields #[u2, u3, u4] }) (o := lobj ws 0) rfl; rw [Heap.size_push] at this; exact this) e2 hn
  show Q (.ref (s4.heap.push { cls := .type "slice", data := .fields #[u2, u3, u4] }).objs.size) _
  rw [Heap.size_push]
  exact q Z' _ v σ' _ ((((x1.trans x2).trans x3).trans x4).trans xx) rv kv S'
end

/-! ### the ties, as data -/
structure Tie where
  w : Int
  k : Int
  n : Int
  f : Int
deriving DecidableEq
def Tie.d (t : Tie) : D := .tup [.int t.w, .int t.k, .int t.n, .int t.f]
def own : List Int := [14, 3, 2, 1, 7, 33, 46, 59]
def cellsOf (ns : List Int) : List Int := (ns.take 8 ++ own.drop (ns.take 8).length).take (8 - ns.length % 2)
def tieOf (k : Nat) (c : Int) : Tie :=
  { w := if c.fmod 7 = 0 then c.fdiv 20 else (if k < 4 then c.fmod 4 else (c.fdiv 20).fmod 4), k := k,
    n := if k < 4 then (k : Int) else c.fmod 5,
    f := if k < 4 then (k : Int) + 1 else (c.fmod 5 + 1 + (c.fdiv 5).fmod 4).fmod 5 }
noncomputable def tiesFrom : Nat → List Int → List Tie
  | _, [] => []
  | k, c :: cs => tieOf k c :: tiesFrom (k + 1) cs
theorem tiesFrom_append (k : Nat) (as : List Int) (b : Int) : tiesFrom k (as ++ [b]) = tiesFrom k as ++ [tieOf (k + as.length) b] := by
  induction as generalizing k with
  | nil => rfl
  | cons a as ih => simp only [List.cons_append, tiesFrom, ih, List.length_cons, List.cons.injEq, true_and]; rw [show k + 1 + as.length = k + (as.length + 1) from by (first | lia | omega)]
noncomputable def tiesOf (ns : List Int) : List Tie := tiesFrom 0 (cellsOf ns)
theorem cellsOf_length (ns : List Int) : (cellsOf ns).length = 8 - ns.length % 2 := by
  unfold cellsOf
  have : own.length = 8 := rfl
  simp [this]; (first | lia | omega)

theorem ex_t {b : Bool} {P : Bool → Prop} (h : P b) : ∃ t, V.d (D.bool b) = V.d (D.bool t) ∧ P t := ⟨b, rfl, h⟩

theorem tiesFrom_length (k : Nat) (cs : List Int) : (tiesFrom k cs).length = cs.length := by
  induction cs generalizing k with
  | nil => rfl
  | cons a as ih => simp [tiesFrom, ih]
theorem map_int_inj {a b : List Int} (h : a.map D.int = b.map D.int) : a = b := by
  induction a generalizing b with
  | nil => cases b with
    | nil => rfl
    | cons x y => simp at h
  | cons x xs ih => cases b with
    | nil => simp at h
    | cons y ys =>
      simp only [List.map_cons, List.cons.injEq, D.int.injEq] at h
      rw [h.1, ih h.2]
end Mine
namespace Mine
open PySem.SeqAt Classical

/-- two places that no cut of the ties parts -/
def Conn (ts : List Tie) (u v : Int) : Prop := ∀ S : Int → Prop, (∀ t ∈ ts, S t.n ↔ S t.f) → (S u ↔ S v)
theorem Conn.refl {ts : List Tie} (u : Int) : Conn ts u u := fun _ _ => Iff.rfl
theorem Conn.symm {ts : List Tie} {u v : Int} (h : Conn ts u v) : Conn ts v u := fun S hS => (h S hS).symm
theorem Conn.trans {ts : List Tie} {u v w : Int} (h : Conn ts u v) (h2 : Conn ts v w) : Conn ts u w := fun S hS => (h S hS).trans (h2 S hS)
theorem Conn.mono {ts us : List Tie} {u v : Int} (h : Conn ts u v) (hs : ∀ t ∈ ts, t ∈ us) : Conn us u v := fun S hS => h S fun t ht => hS t (hs t ht)
theorem Conn.tie {ts : List Tie} {t : Tie} (h : t ∈ ts) : Conn ts t.n t.f := fun S hS => hS t h

def pairStep (x : Int) (met : List Int) (a b : Int) : List Int := if a = x ∧ b ∉ met then met ++ [b] else met
def tieStep (x : Int) (met : List Int) (t : Tie) : List Int := pairStep x (pairStep x met t.n t.f) t.f t.n
structure SI (ts : List Tie) (p : Int) (met : List Int) : Prop where
  nd : met.Nodup
  rg : ∀ x ∈ met, 0 ≤ x ∧ x < 5
  pm : p ∈ met
  cn : ∀ x ∈ met, Conn ts p x
theorem pairStep_ext (x : Int) (met : List Int) (a b : Int) : ∃ e, pairStep x met a b = met ++ e := by
  unfold pairStep; split
  · exact ⟨_, rfl⟩
  · exact ⟨[], by simp⟩
theorem tieStep_ext (x : Int) (met : List Int) (t : Tie) : ∃ e, tieStep x met t = met ++ e := by
  obtain ⟨e1, h1⟩ := pairStep_ext x met t.n t.f
  obtain ⟨e2, h2⟩ := pairStep_ext x (pairStep x met t.n t.f) t.f t.n
  exact ⟨e1 ++ e2, by unfold tieStep; rw [h2, h1, List.append_assoc]⟩
theorem fold_ext (x : Int) (ts : List Tie) : ∀ met : List Int, ∃ e, ts.foldl (tieStep x) met = met ++ e := by
  induction ts with
  | nil => exact fun met => ⟨[], by simp⟩
  | cons t ts ih =>
    intro met
    obtain ⟨e1, h1⟩ := tieStep_ext x met t
    obtain ⟨e2, h2⟩ := ih (tieStep x met t)
    exact ⟨e1 ++ e2, by rw [List.foldl_cons, h2, h1, List.append_assoc]⟩
theorem pairStep_mem (x : Int) (met : List Int) (a b : Int) (h : a = x) : b ∈ pairStep x met a b := by
  unfold pairStep
  by_cases hb : b ∈ met
  · rw [if_neg (fun q => q.2 hb)]; exact hb
  · rw [if_pos ⟨h, hb⟩]; simp
theorem SI.pair {ts : List Tie} {p x a b : Int} {met : List Int} (h : SI ts p met) (hx : x ∈ met) (hb : 0 ≤ b ∧ b < 5) (hc : Conn ts a b) : SI ts p (pairStep x met a b) := by
  unfold pairStep
  split
  · rename_i q
    refine ⟨?_, fun y hy => ?_, List.mem_append_left _ h.pm, fun y hy => ?_⟩
    · rw [List.nodup_append]
      refine ⟨h.nd, by simp, fun y hy z hz => ?_⟩
      rw [List.mem_singleton.mp hz]
      rintro rfl; exact q.2 hy
    · rcases List.mem_append.mp hy with hy | hy
      · exact h.rg y hy
      · rw [List.mem_singleton.mp hy]; exact hb
    · rcases List.mem_append.mp hy with hy | hy
      · exact h.cn y hy
      · rw [List.mem_singleton.mp hy]
        exact (h.cn x hx).trans (q.1 ▸ hc)
  · exact h
theorem SI.tie {ts : List Tie} {p x : Int} {met : List Int} {t : Tie} (h : SI ts p met) (hx : x ∈ met) (ht : t ∈ ts) (hr : ∀ t ∈ ts, (0 ≤ t.n ∧ t.n < 5) ∧ 0 ≤ t.f ∧ t.f < 5) : SI ts p (tieStep x met t) := by
  have h1 := h.pair hx (hr t ht).2 (Conn.tie ht)
  obtain ⟨e, he⟩ := pairStep_ext x met t.n t.f
  exact h1.pair (by rw [he]; exact List.mem_append_left _ hx) (hr t ht).1 (Conn.tie ht).symm
theorem SI.fold {ts : List Tie} {p x : Int} (hr : ∀ t ∈ ts, (0 ≤ t.n ∧ t.n < 5) ∧ 0 ≤ t.f ∧ t.f < 5) : ∀ {us : List Tie} {met : List Int}, (∀ t ∈ us, t ∈ ts) → SI ts p met → x ∈ met → SI ts p (us.foldl (tieStep x) met)
  | [], met, _, h, _ => h
  | t :: us, met, hu, h, hx => by
    rw [List.foldl_cons]
    obtain ⟨e, he⟩ := tieStep_ext x met t
    exact SI.fold hr (fun t ht => hu t (.tail _ ht)) (h.tie hx (hu t (.head _)) hr) (by rw [he]; exact List.mem_append_left _ hx)
theorem fold_closed {x : Int} : ∀ {us : List Tie} {met : List Int}, ∀ t ∈ us, (t.n = x → t.f ∈ us.foldl (tieStep x) met) ∧ (t.f = x → t.n ∈ us.foldl (tieStep x) met)
  | u :: us, met, t, ht => by
    rw [List.foldl_cons]
    obtain ⟨e, he⟩ := fold_ext x us (tieStep x met u)
    rcases List.mem_cons.mp ht with rfl | ht
    · rw [he]
      refine ⟨fun q => List.mem_append_left _ ?_, fun q => List.mem_append_left _ ?_⟩
      · obtain ⟨e2, h2⟩ := pairStep_ext x (pairStep x met t.n t.f) t.f t.n
        unfold tieStep; rw [h2]
        exact List.mem_append_left _ (pairStep_mem x met _ _ q)
      · exact pairStep_mem x _ _ _ q
    · exact fold_closed t ht
/-- what a side is -/
structure SideOk (ts : List Tie) (p : Int) (met : List Int) : Prop where
  nd : met.Nodup
  rg : ∀ x ∈ met, 0 ≤ x ∧ x < 5
  iff : ∀ x, x ∈ met ↔ Conn ts p x
theorem SI.side {ts : List Tie} {p : Int} {met : List Int} (h : SI ts p met) (hc : ∀ x ∈ met, ∀ t ∈ ts, (t.n = x → t.f ∈ met) ∧ (t.f = x → t.n ∈ met)) : SideOk ts p met :=
  ⟨h.nd, h.rg, fun x => ⟨h.cn x, fun c => (c (· ∈ met) fun t ht => ⟨fun q => (hc _ q t ht).1 rfl, fun q => (hc _ q t ht).2 rfl⟩).mp h.pm⟩⟩
theorem nodup_le {α : Type} [DecidableEq α] : ∀ {met L : List α}, met.Nodup → (∀ x ∈ met, x ∈ L) → met.length ≤ L.length
  | [], _, _, _ => Nat.zero_le _
  | x :: met, L, nd, h => by
    have hx := h x (.head _)
    have h1 : met.length ≤ (L.erase x).length := nodup_le (List.nodup_cons.mp nd).2 fun y hy => by
      have ne : y ≠ x := by rintro rfl; exact (List.nodup_cons.mp nd).1 hy
      exact (List.mem_erase_of_ne ne).mpr (h y (.tail _ hy))
    rw [List.length_erase_of_mem hx] at h1
    have : 0 < L.length := List.length_pos_of_mem hx
    simp only [List.length_cons]; (first | lia | omega)
theorem nodup_five {met : List Int} (nd : met.Nodup) (rg : ∀ x ∈ met, 0 ≤ x ∧ x < 5) : met.length ≤ 5 := by
  have := nodup_le (L := [0, 1, 2, 3, 4]) nd fun x hx => by
    have := rg x hx
    have : x = 0 ∨ x = 1 ∨ x = 2 ∨ x = 3 ∨ x = 4 := by (first | lia | omega)
    simpa using this
  simpa using this

theorem Tie.d_inj {a b : Tie} (h : a.d = b.d) : a = b := by
  cases a; cases b
  simp only [Tie.d, D.tup.injEq, List.cons.injEq, D.int.injEq, and_true] at h
  refine hide fun P_ hP_ => ?_
  obtain ⟨rfl, rfl, rfl, rfl⟩ := h
  refine hP_ ?_
  clear hP_ P_
  rfl
theorem map_split {α : Type} {g : α → D} (hg : ∀ a b, g a = g b → a = b) : ∀ {ts us : List α} {d : D} {post : List D}, ts.map g = us.map g ++ d :: post → ∃ t vs, d = g t ∧ ts = us ++ t :: vs
  | [], us, d, post, h => by cases us <;> simp at h
  | t :: ts, [], d, post, h => by
    simp only [List.map_cons, List.map_nil, List.nil_append, List.cons.injEq] at h
    exact ⟨t, ts, h.1.symm, rfl⟩
  | t :: ts, u :: us, d, post, h => by
    simp only [List.map_cons, List.cons_append, List.cons.injEq] at h
    refine hide fun P_ hP_ => ?_
    obtain ⟨t', vs, e1, e2⟩ := map_split hg h.2
    refine hP_ ?_
    clear hP_ P_
    exact ⟨t', vs, e1, by rw [hg _ _ h.1, e2]; rfl⟩
theorem map_inj' {α : Type} {g : α → D} (hg : ∀ a b, g a = g b → a = b) : ∀ {a b : List α}, a.map g = b.map g → a = b
  | [], [], _ => rfl
  | [], _ :: _, h => by simp at h
  | _ :: _, [], h => by simp at h
  | x :: xs, y :: ys, h => by
    simp only [List.map_cons, List.cons.injEq] at h
    rw [hg _ _ h.1, map_inj' hg h.2]
theorem mem_map' {α : Type} {g : α → D} (hg : ∀ a b, g a = g b → a = b) {a : α} {l : List α} : g a ∈ l.map g ↔ a ∈ l :=
  ⟨fun h => by obtain ⟨b, hb, e⟩ := List.mem_map.mp h; rw [← hg _ _ e]; exact hb, fun h => List.mem_map_of_mem h⟩
theorem int_inj (a b : Int) (h : D.int a = D.int b) : a = b := by injection h
theorem tie_inj (a b : Tie) (h : a.d = b.d) : a = b := Tie.d_inj h
theorem pairStep_len (x : Int) (met : List Int) (a b : Int) : (pairStep x met a b).length ≤ met.length + 1 := by
  unfold pairStep; split <;> simp
theorem has_int (i : Int) : Has .int (.int i) := by simp [Has]
theorem has_ints {m : List Int} : ∀ d ∈ m.map D.int, Has .int d := fun d hd => by
  obtain ⟨i, -, rfl⟩ := List.mem_map.mp hd; exact has_int i
def tyT : Ty := .tup [.int, .int, .int, .int]
theorem has_tie (t : Tie) : Has tyT t.d := by simp [Has, Hass, tyT, Tie.d]
theorem has_ties {ts : List Tie} : ∀ d ∈ ts.map Tie.d, Has tyT d := fun d hd => by
  obtain ⟨i, -, rfl⟩ := List.mem_map.mp hd; exact has_tie i
theorem depT : tyT.depth = 1 := by simp [tyT, Ty.depth, Tys.depth]
/-- how far the two turns over a tie's ends have come -/
def Two (x : Int) (t : Tie) (m0 : List Int) (pre : List (List D)) (m : List Int) : Prop :=
  (pre = [] ∧ m = m0) ∨ (pre = [[.int t.n, .int t.f]] ∧ m = pairStep x m0 t.n t.f) ∨ (pre = [[.int t.n, .int t.f], [.int t.f, .int t.n]] ∧ m = tieStep x m0 t)
theorem Two.step {x : Int} {t : Tie} {m0 : List Int} {pre post : List (List D)} {d : List D} {m : List Int} (h : Two x t m0 pre m) (hd : [[.int t.n, .int t.f], [.int t.f, .int t.n]] = pre ++ d :: post) :
    ∃ e f, d = [.int e, .int f] ∧ Two x t m0 (pre ++ [[.int e, .int f]]) (pairStep x m e f) := by
  rcases h with ⟨rfl, rfl⟩ | ⟨rfl, rfl⟩ | ⟨rfl, rfl⟩
  · simp only [List.nil_append, List.cons.injEq] at hd
    exact ⟨t.n, t.f, hd.1.symm, .inr (.inl ⟨rfl, rfl⟩)⟩
  · simp only [List.cons_append, List.nil_append, List.cons.injEq] at hd
    exact ⟨t.f, t.n, hd.2.1.symm, .inr (.inr ⟨rfl, rfl⟩)⟩
  · simp at hd
theorem Two.ext {x : Int} {t : Tie} {m0 : List Int} {pre : List (List D)} {m : List Int} (h : Two x t m0 pre m) : (∃ e, m = m0 ++ e) ∧ m.length ≤ m0.length + 2 := by
  rcases h with ⟨-, rfl⟩ | ⟨-, rfl⟩ | ⟨-, rfl⟩
  · exact ⟨⟨[], by simp⟩, by (first | lia | omega)⟩
  · exact ⟨pairStep_ext .., by have := pairStep_len x m0 t.n t.f; (first | lia | omega)⟩
  · refine ⟨tieStep_ext .., ?_⟩
    have := pairStep_len x m0 t.n t.f
    have := pairStep_len x (pairStep x m0 t.n t.f) t.f t.n
    unfold tieStep; (first | lia | omega)
theorem Two.done {x : Int} {t : Tie} {m0 : List Int} {m : List Int} (h : Two x t m0 [[.int t.n, .int t.f], [.int t.f, .int t.n]] m) : m = tieStep x m0 t := by
  rcases h with ⟨h, rfl⟩ | ⟨h, rfl⟩ | ⟨h, rfl⟩
  · simp at h
  · simp at h
  · rfl
theorem getD_map_int {m : List Int} {i : Nat} (h : i < m.length) : (m.map D.int).getD i .none = .int (m.getD i 0) := by simp [h]

section
variable {c : Cx} {ρ : Vars} {σ : Sto} {K : V → Sto → Prop} {l r : Expr} {t : Tie}
theorem op_tie0 (h : K (.d (.int t.w)) σ) (hs : ∀ b u, subscripted r false (.ref b) (.int 0 u) = operate [.ref b, .int 0 u] (getItem (.ref b) (.int 0 u))) : Op2 c ρ σ (subscriptTail l r) (.d t.d) (.d (.int 0)) K :=
  op_place (ds := [.int t.w, .int t.k, .int t.n, .int t.f]) (j := 0) (by decide) (by decide) (by rfl) (by rfl) h hs
theorem op_tie2 (h : K (.d (.int t.n)) σ) (hs : ∀ b u, subscripted r false (.ref b) (.int 2 u) = operate [.ref b, .int 2 u] (getItem (.ref b) (.int 2 u))) : Op2 c ρ σ (subscriptTail l r) (.d t.d) (.d (.int 2)) K :=
  op_place (ds := [.int t.w, .int t.k, .int t.n, .int t.f]) (j := 2) (by decide) (by decide) (by rfl) (by rfl) h hs
theorem op_tie3 (h : K (.d (.int t.f)) σ) (hs : ∀ b u, subscripted r false (.ref b) (.int 3 u) = operate [.ref b, .int 3 u] (getItem (.ref b) (.int 3 u))) : Op2 c ρ σ (subscriptTail l r) (.d t.d) (.d (.int 3)) K :=
  op_place (ds := [.int t.w, .int t.k, .int t.n, .int t.f]) (j := 3) (by decide) (by decide) (by rfl) (by rfl) h hs
end
def worth (ts : List Tie) : Int := (ts.map Tie.w).sum
def gl (ts : List Tie) : D := .lst (ts.map Tie.d)
theorem gl_inj (a b : List Tie) (h : gl a = gl b) : a = b := by
  unfold gl at h
  injection h with h
  exact map_inj' tie_inj h
def choiceStep (m : Nat) (found : List (List Tie)) (t : Tie) : List (List Tie) := found ++ (found.filter fun c => decide (c.length < m)).map (· ++ [t])
def choices (m : Nat) (ts : List Tie) : List (List Tie) := (ts.foldl (choiceStep m) [[]]).filter fun c => decide (c.length = m)
theorem choiceStep_len (m : Nat) (found : List (List Tie)) (t : Tie) : (choiceStep m found t).length ≤ 2 * found.length := by
  unfold choiceStep
  have := List.length_filter_le (fun c : List Tie => decide (c.length < m)) found
  simp; (first | lia | omega)
theorem choiceFold_len (m : Nat) : ∀ (ts : List Tie) (found : List (List Tie)), (ts.foldl (choiceStep m) found).length ≤ 2 ^ ts.length * found.length
  | [], found => by simp
  | t :: ts, found => by
    rw [List.foldl_cons]
    have h1 := choiceFold_len m ts (choiceStep m found t)
    have h2 := choiceStep_len m found t
    have h3 : 2 ^ ts.length * (choiceStep m found t).length ≤ 2 ^ ts.length * (2 * found.length) := Nat.mul_le_mul_left _ h2
    rw [List.length_cons, Nat.pow_succ]
    calc _ ≤ _ := h1
      _ ≤ _ := h3
      _ = _ := by rw [Nat.mul_assoc]
theorem choiceFold_mem (m : Nat) : ∀ (ts : List Tie) (found : List (List Tie)) (k : Nat), (∀ c ∈ found, c.length ≤ k) → ∀ c ∈ ts.foldl (choiceStep m) found, c.length ≤ k + ts.length
  | [], found, k, h, c, hc => by simpa using h c hc
  | t :: ts, found, k, h, c, hc => by
    rw [List.foldl_cons] at hc
    have := choiceFold_mem m ts (choiceStep m found t) (k + 1) (fun c hc => by
      unfold choiceStep at hc
      rcases List.mem_append.mp hc with hc | hc
      · have := h c hc; (first | lia | omega)
      · refine hide fun P_ hP_ => ?_
        obtain ⟨c', h1, rfl⟩ := List.mem_map.mp hc
        refine hP_ ?_
        clear hP_ P_
        have := h c' (List.mem_filter.mp h1).1
        simp; (first | lia | omega)) c hc
    rw [List.length_cons]; (first | lia | omega)

def Span (c : List Tie) : Prop := ∀ x : Int, 0 ≤ x → x < 5 → Conn c 0 x
noncomputable def trees (ts : List Tie) : List (List Tie) := (choices 4 ts).filter fun c => decide (Span c)
theorem choiceFold_sub (m : Nat) {ts : List Tie} : ∀ (us : List Tie) (found : List (List Tie)), (∀ t ∈ us, t ∈ ts) → (∀ c ∈ found, ∀ t ∈ c, t ∈ ts) → ∀ c ∈ us.foldl (choiceStep m) found, ∀ t ∈ c, t ∈ ts
  | [], found, _, h, c, hc => h c hc
  | u :: us, found, hu, h, c, hc => by
    rw [List.foldl_cons] at hc
    refine choiceFold_sub m us (choiceStep m found u) (fun t ht => hu t (.tail _ ht)) (fun c hc => ?_) c hc
    unfold choiceStep at hc
    rcases List.mem_append.mp hc with hc | hc
    · exact h c hc
    · refine hide fun P_ hP_ => ?_
      obtain ⟨c', h1, rfl⟩ := List.mem_map.mp hc
      refine hP_ ?_
      clear hP_ P_
      intro t ht
      rcases List.mem_append.mp ht with ht | ht
      · exact h c' (List.mem_filter.mp h1).1 t ht
      · rw [List.mem_singleton.mp ht]; exact hu u (.head _)
theorem choices_sub {m : Nat} {ts c : List Tie} (h : c ∈ choices m ts) : (∀ t ∈ c, t ∈ ts) ∧ c.length = m := by
  unfold choices at h
  obtain ⟨h1, h2⟩ := List.mem_filter.mp h
  exact ⟨choiceFold_sub m ts [[]] (fun t ht => ht) (fun c hc t ht => by simp at hc; subst hc; cases ht) c h1, by simpa using h2⟩
theorem SideOk.span {c : List Tie} {met : List Int} (h : SideOk c 0 met) : met.length = 5 ↔ Span c := by
  constructor
  · intro h5 x h0 h1
    refine (h.iff x).mp ?_
    refine Classical.byContradiction fun hx => ?_
    have nd : (x :: met).Nodup := List.nodup_cons.mpr ⟨hx, h.nd⟩
    have := nodup_five nd fun y hy => by
      rcases List.mem_cons.mp hy with rfl | hy
      · exact ⟨h0, h1⟩
      · exact h.rg y hy
    simp at this; (first | lia | omega)
  · intro hs
    have h1 := nodup_five h.nd h.rg
    have h2 := nodup_le (met := ([0, 1, 2, 3, 4] : List Int)) (L := met) (by decide) fun x hx => (h.iff x).mpr (hs x (by simp at hx; (first | lia | omega)) (by simp at hx; (first | lia | omega)))
    simp at h2; (first | lia | omega)
theorem choices_len (m : Nat) (ts : List Tie) (hz : ts.length ≤ 8) : (choices m ts).length ≤ 256 := by
  have h1 := choiceFold_len m ts [[]]
  have h2 : 2 ^ ts.length ≤ 2 ^ 8 := Nat.pow_le_pow_right (by decide) hz
  unfold choices
  have := List.length_filter_le (fun c : List Tie => decide (c.length = m)) (ts.foldl (choiceStep m) [[]])
  simp at h1; (first | lia | omega)
def less (T : List Tie) (g : Tie) : List Tie := T.filter fun o => decide (o ≠ g)
def Crosses (T : List Tie) (g t : Tie) : Prop := ¬ (Conn (less T g) g.n t.n ↔ Conn (less T g) g.n t.f)
noncomputable def exOf (T : List Tie) (t : Tie) (gs : List Tie) : List (Tie × Tie) := (gs.filter fun g => decide (Crosses T g t)).map fun g => (t, g)
noncomputable def exch (ts T : List Tie) : List (Tie × Tie) := ts.flatMap fun t => if t ∈ T then [] else exOf T t T
def exD (e : Tie × Tie) : D := .tup [.int (e.1.w - e.2.w), e.1.d, e.2.d]
theorem exD_inj (a b : Tie × Tie) (h : exD a = exD b) : a = b := by
  obtain ⟨a1, a2⟩ := a; obtain ⟨b1, b2⟩ := b
  simp only [exD, D.tup.injEq, List.cons.injEq, and_true] at h
  rw [Tie.d_inj h.2.1, Tie.d_inj h.2.2]
theorem exOf_len (T : List Tie) (t : Tie) (gs : List Tie) : (exOf T t gs).length ≤ gs.length := by
  unfold exOf; simp; exact List.length_filter_le ..
theorem exch_len (T : List Tie) : ∀ ts : List Tie, (exch ts T).length ≤ ts.length * T.length
  | [] => by simp [exch]
  | t :: ts => by
    have ih := exch_len T ts
    have h1 := exOf_len T t T
    unfold exch at ih ⊢
    rw [List.flatMap_cons, List.length_append, List.length_cons, Nat.succ_mul]
    split
    · simp only [List.length_nil]; (first | lia | omega)
    · (first | lia | omega)
theorem less_mem {T : List Tie} {g t : Tie} : t ∈ less T g ↔ t ∈ T ∧ t ≠ g := by unfold less; rw [List.mem_filter]; simp
theorem less_len (T : List Tie) (g : Tie) : (less T g).length ≤ T.length := by unfold less; exact List.length_filter_le ..
end Mine
namespace Mine
open PySem.SeqAt Classical

/-- a strict total order -/
structure TO (lt : D → D → Bool) : Prop where
  irr : ∀ a, lt a a = false
  tr : ∀ a b c, lt a b = true → lt b c = true → lt a c = true
  tot : ∀ a b, a ≠ b → lt a b = false → lt b a = true
theorem TO.ltD : TO D.lt := ⟨D.lt_irrefl, D.lt_trans, D.lt_total⟩
theorem TO.gtD : TO Mine.gtD := ⟨D.lt_irrefl, fun a b c h1 h2 => D.lt_trans c b a h2 h1, fun a b h e => D.lt_total b a (Ne.symm h) e⟩
section
variable {lt : D → D → Bool}
/-- not above -/
def Le (lt : D → D → Bool) (a b : D) : Prop := lt b a = false
theorem TO.refl (T : TO lt) (a : D) : Le lt a a := T.irr a
theorem TO.asymm (T : TO lt) {a b : D} (h : lt a b = true) : lt b a = false := by
  cases q : lt b a with
  | false => rfl
  | true => have := T.tr _ _ _ h q; rw [T.irr] at this; cases this
theorem TO.of_lt (T : TO lt) {a b : D} (h : lt a b = true) : Le lt a b := T.asymm h
theorem TO.antisymm (T : TO lt) {a b : D} (h : Le lt a b) (h2 : Le lt b a) : a = b := by
  by_cases e : a = b
  · exact e
  · have := T.tot a b e h2; rw [h] at this; cases this
theorem TO.trans (T : TO lt) {a b c : D} (h : Le lt a b) (h2 : Le lt b c) : Le lt a c := by
  by_cases e : a = b
  · rw [e]; exact h2
  · by_cases e2 : b = c
    · rw [← e2]; exact h
    · have h3 : lt a b = true := T.tot b a (Ne.symm e) h
      have h4 : lt b c = true := T.tot c b (Ne.symm e2) h2
      exact T.of_lt (T.tr _ _ _ h3 h4)

def par (i : Nat) : Nat := (i - 1) / 2
abbrev at' (l : List D) (i : Nat) : D := l.getD i .none
theorem at_set_self {l : List D} {i : Nat} {x : D} (h : i < l.length) : at' (l.set i x) i = x := getD_set_self h
theorem at_set_ne {l : List D} {i j : Nat} {x : D} (h : j ≠ i) : at' (l.set i x) j = at' l j := by
  unfold at'
  rw [List.getD_eq_getElem?_getD, List.getD_eq_getElem?_getD, List.getElem?_set_ne (Ne.symm h)]
/-- in order below s -/
def HeapFrom (lt : D → D → Bool) (l : List D) (s : Nat) : Prop := ∀ i, i < l.length → 0 < i → s ≤ par i → Le lt (at' l (par i)) (at' l i)
/-- in order but for p -/
structure Hole (lt : D → D → Bool) (l : List D) (s p : Nat) : Prop where
  a : ∀ i, i < l.length → 0 < i → s ≤ par i → i ≠ p → par i ≠ p → Le lt (at' l (par i)) (at' l i)
  b : ∀ i, i < l.length → 0 < i → par i = p → 0 < p → s ≤ par p → Le lt (at' l (par p)) (at' l i)
inductive Desc (s : Nat) : Nat → Prop
  | refl : Desc s s
  | step {p} : s < p → Desc s (par p) → Desc s p
theorem Desc.le {s p : Nat} (h : Desc s p) : s ≤ p := by
  cases h with
  | refl => exact Nat.le_refl _
  | step h _ => exact Nat.le_of_lt h
theorem Desc.up {s p : Nat} (h : Desc s p) (hp : s < p) : Desc s (par p) := by
  cases h with
  | refl => exact absurd hp (Nat.lt_irrefl _)
  | step _ h => exact h
theorem Hole.set {l : List D} {s p : Nat} (h : Hole lt l s p) (x : D) : Hole lt (l.set p x) s p := by
  refine ⟨fun i hi h0 hs h1 h2 => ?_, fun i hi h0 h1 hp hs => ?_⟩
  · rw [at_set_ne h2, at_set_ne h1]
    exact h.a i (by simpa using hi) h0 hs h1 h2
  · have hi' : i ≠ p := by unfold par at h1; (first | lia | omega)
    have hp' : par p ≠ p := by unfold par; (first | lia | omega)
    rw [at_set_ne hp', at_set_ne hi']
    exact h.b i (by simpa using hi) h0 h1 hp hs
theorem perm_move {l : List D} {i j : Nat} {x : D} (hi : i < l.length) (hj : j < l.length) (hij : i ≠ j) : ((l.set i (at' l j)).set j x).Perm (l.set i x) := by
  have hi' : i < (l.set i x).length := by simpa using hi
  have hj' : j < (l.set i x).length := by simpa using hj
  have := List.set_set_perm (as := l.set i x) hi' hj'
  have e1 : (l.set i x)[j] = at' l j := by simp [at', hij, hj]
  have e2 : (l.set i x)[i] = x := by simp
  rw [e1, e2, List.set_set] at this
  exact this
theorem sdn_perm (T : TO lt) {x : D} {s : Nat} : ∀ {p : Nat} {l : List D}, p < l.length → (sdn lt x s p l).Perm (l.set p x) := by
  intro p
  induction p using Nat.strongRecOn with
  | _ p ih =>
    intro l hp
    rw [sdn]
    split
    · rename_i h
      split
      · refine (ih _ (half_lt h) (by simp; (first | lia | omega))).trans ?_
        exact perm_move (j := (p - 1) / 2) hp (by (first | lia | omega)) (by (first | lia | omega))
      · exact .refl _
    · exact .refl _
theorem sdn_heap (T : TO lt) {x : D} {s : Nat} : ∀ {p : Nat} {l : List D}, p < l.length → Hole lt l s p → Desc s p → (∀ i, i < l.length → 0 < i → par i = p → Le lt x (at' l i)) → HeapFrom lt (sdn lt x s p l) s := by
  intro p
  induction p using Nat.strongRecOn with
  | _ p ih =>
    intro l hp hh hd hx
    have stop : (s < p → Le lt (at' l (par p)) x) → HeapFrom lt (l.set p x) s := fun hpar i hi h0 hs => by
      rw [List.length_set] at hi
      by_cases h1 : i = p
      · subst h1
        have hs' : s < i := by unfold par at hs; (first | lia | omega)
        rw [at_set_self hp, at_set_ne (by unfold par; (first | lia | omega))]
        exact hpar hs'
      · by_cases h2 : par i = p
        · rw [h2, at_set_self hp, at_set_ne h1]
          exact hx i hi h0 h2
        · rw [at_set_ne h1, at_set_ne h2]
          exact hh.a i hi h0 hs h1 h2
    rw [sdn]
    split
    · rename_i h
      have hpp : par p < p := half_lt h
      have hps : s ≤ par p := (hd.up h).le
      split
      · rename_i hlt
        refine ih (par p) hpp (by simp; (first | lia | omega)) ⟨fun i hi h0 hs h1 h2 => ?_, fun i hi h0 h1 hp0 hs => ?_⟩ (hd.up h) fun i hi h0 h1 => ?_
        · rw [List.length_set] at hi
          by_cases q : i = p
          · exact absurd (q ▸ rfl) h2
          · by_cases q2 : par i = p
            · rw [q2, at_set_self hp, at_set_ne q]
              exact hh.b i hi h0 q2 (by (first | lia | omega)) hps
            · rw [at_set_ne q, at_set_ne q2]
              exact hh.a i hi h0 hs q q2
        · rw [List.length_set] at hi
          have a1 : par (par p) ≠ p := by unfold par at *; (first | lia | omega)
          have top : Le lt (at' l (par (par p))) (at' l (par p)) := hh.a (par p) (by (first | lia | omega)) hp0 hs (by (first | lia | omega)) (by (first | lia | omega))
          by_cases q : i = p
          · rw [q, at_set_self hp, at_set_ne a1]
            exact top
          · rw [at_set_ne q, at_set_ne a1]
            exact T.trans top (h1 ▸ hh.a i hi h0 (by rw [h1]; exact hps) q (by (first | lia | omega)))
        · rw [List.length_set] at hi
          have hl : Le lt x (at' l (par p)) := T.of_lt hlt
          by_cases q : i = p
          · rw [q, at_set_self hp]; exact hl
          · rw [at_set_ne q]
            exact T.trans hl (h1 ▸ hh.a i hi h0 (by rw [h1]; exact hps) q (by (first | lia | omega)))
      · rename_i hlt
        exact stop fun _ => by
          cases q : lt x (at' l (par p)) with
          | false => exact q
          | true => exact absurd q hlt
    · rename_i h
      exact stop fun q => absurd q h
theorem supC_spec (T : TO lt) {l : List D} {p : Nat} (h : 2 * p + 1 < l.length) : par (supC lt l.length p l) = p ∧ 0 < supC lt l.length p l ∧ ∀ i, i < l.length → 0 < i → par i = p → Le lt (at' l (supC lt l.length p l)) (at' l i) := by
  unfold supC
  split
  · rename_i q
    refine ⟨by unfold par; (first | lia | omega), by (first | lia | omega), fun i hi h0 hp => ?_⟩
    have : i = 2 * p + 1 ∨ i = 2 * p + 2 := by unfold par at hp; (first | lia | omega)
    rcases this with rfl | rfl
    · exact q.2
    · exact T.refl _
  · rename_i q
    refine ⟨by unfold par; (first | lia | omega), by (first | lia | omega), fun i hi h0 hp => ?_⟩
    have : i = 2 * p + 1 ∨ i = 2 * p + 2 := by unfold par at hp; (first | lia | omega)
    rcases this with rfl | rfl
    · exact T.refl _
    · cases z : lt (l.getD (2 * p + 1) .none) (l.getD (2 * p + 2) .none) with
      | false => exact absurd ⟨hi, z⟩ q
      | true => exact T.of_lt z
theorem sup_spec (T : TO lt) {s N : Nat} : ∀ (n p : Nat) (l : List D), N - p = n → l.length = N → p < N → Hole lt l s p → Desc s p →
    Hole lt (sup lt N p l).2 s (sup lt N p l).1 ∧ Desc s (sup lt N p l).1 ∧ N ≤ 2 * (sup lt N p l).1 + 1 ∧ ∀ x, ((sup lt N p l).2.set (sup lt N p l).1 x).Perm (l.set p x) := by
  intro n
  induction n using Nat.strongRecOn with
  | _ n ih =>
    intro p l hn hN hp hh hd
    rw [sup]
    split
    · rename_i h
      subst hN
      refine hide fun P_ hP_ => ?_
      obtain ⟨c1, c2, c3⟩ := supC_spec T (l := l) (p := p) h
      refine hP_ ?_
      clear hP_ P_
      have c4 := supC_lt lt l h
      generalize hc : supC lt l.length p l = c at c1 c2 c3 c4 ⊢
      have hole : Hole lt (l.set p (at' l c)) s c := by
        refine ⟨fun i hi h0 hs h1 h2 => ?_, fun i hi h0 h1 hp0 hs => ?_⟩
        · rw [List.length_set] at hi
          by_cases q : i = p
          · rw [q, at_set_self hp, at_set_ne (by unfold par; (first | lia | omega))]
            exact hh.b c c4.2 c2 c1 (q ▸ h0) (q ▸ hs)
          · by_cases q2 : par i = p
            · rw [q2, at_set_self hp, at_set_ne q]
              exact c3 i hi h0 q2
            · rw [at_set_ne q, at_set_ne q2]
              exact hh.a i hi h0 hs q q2
        · rw [List.length_set] at hi
          rw [c1] at hs ⊢
          have q : i ≠ p := by unfold par at h1; (first | lia | omega)
          rw [at_set_self hp, at_set_ne q]
          have := hh.a i hi h0 (by rw [h1]; (first | lia | omega)) q (by rw [h1]; (first | lia | omega))
          rw [h1] at this
          exact this
      refine hide fun P_ hP_ => ?_
      obtain ⟨r1, r2, r3, r4⟩ := ih (l.length - c) (by lia) c (l.set p (at' l c)) rfl List.length_set c4.2 hole (.step (by have := hd.le; (first | lia | omega)) (by rw [c1]; exact hd))
      refine hP_ ?_
      clear hP_ P_
      refine ⟨r1, r2, r3, fun x => (r4 x).trans (perm_move hp c4.2 (by (first | lia | omega)))⟩
    · rename_i h
      exact ⟨hh, hd, by (first | lia | omega), fun x => .refl _⟩
theorem siftup_spec (T : TO lt) {s : Nat} {l : List D} (hs : s < l.length) (hh : Hole lt l s s) : HeapFrom lt (siftup lt s l) s ∧ (siftup lt s l).Perm l := by
  refine hide fun P_ hP_ => ?_
  obtain ⟨r1, r2, r3, r4⟩ := sup_spec T (s := s) (N := l.length) (l.length - s) s l rfl rfl hs hh .refl
  refine hP_ ?_
  clear hP_ P_
  have b := sup_bound lt l.length _ s l rfl hs
  have ln := sup_length lt l.length _ s l rfl
  unfold siftup sift
  generalize sup lt l.length s l = z at r1 r2 r3 r4 b ln
  obtain ⟨q, m⟩ := z
  dsimp only at *
  have hq : q < m.length := by (first | lia | omega)
  rw [getD_set_self hq]
  refine ⟨sdn_heap T (by simpa using hq) (r1.set _) r2 fun i hi h0 hp => ?_, ?_⟩
  · rw [List.length_set] at hi; unfold par at hp; (first | lia | omega)
  · refine (sdn_perm T (by simpa using hq)).trans ?_
    rw [List.set_set]
    refine (r4 _).trans ?_
    have e : l.set s (l.getD s .none) = l := by
      rw [List.getD_eq_getElem?_getD, List.getElem?_eq_getElem hs]; simp
    rw [e]
theorem heap_root (T : TO lt) {l : List D} (h : HeapFrom lt l 0) : ∀ i, i < l.length → Le lt (at' l 0) (at' l i) := by
  intro i
  induction i using Nat.strongRecOn with
  | _ i ih =>
    intro hi
    by_cases q : i = 0
    · rw [q]; exact T.refl _
    · exact T.trans (ih (par i) (by unfold par; (first | lia | omega)) (by unfold par; (first | lia | omega))) (h i hi (by (first | lia | omega)) (Nat.zero_le _))
theorem hpush_spec (T : TO lt) {l : List D} {x : D} (h : HeapFrom lt l 0) : HeapFrom lt (hpush lt l x) 0 ∧ (hpush lt l x).Perm (l ++ [x]) := by
  unfold hpush sift
  have e : (l ++ [x]).getD l.length .none = x := by simp
  have hl : l.length < (l ++ [x]).length := by simp
  rw [e]
  have d : ∀ p, Desc 0 p := by
    intro p
    induction p using Nat.strongRecOn with
    | _ p ih =>
      by_cases q : p = 0
      · rw [q]; exact .refl
      · exact .step (by (first | lia | omega)) (ih _ (by unfold par; (first | lia | omega)))
  have low : ∀ i, i < l.length → at' (l ++ [x]) i = at' l i := fun i hi => by simp [at', List.getElem?_append_left hi]
  refine ⟨sdn_heap T hl ⟨fun i hi h0 hs h1 h2 => ?_, fun i hi h0 h1 hp hs => ?_⟩ (d _) fun i hi h0 h1 => ?_, ?_⟩
  · have hi' : i < l.length := by simp at hi; (first | lia | omega)
    rw [low i hi', low (par i) (by unfold par; (first | lia | omega))]
    exact h i hi' h0 hs
  · simp at hi; unfold par at h1; (first | lia | omega)
  · simp at hi; unfold par at h1; (first | lia | omega)
  · refine (sdn_perm T hl).trans ?_
    have : (l ++ [x]).set l.length x = l ++ [x] := by simp
    rw [this]
theorem hpop_spec (T : TO lt) {l : List D} {x : D} (h : HeapFrom lt (l ++ [x]) 0) : HeapFrom lt (hpop lt l x).2 0 ∧ ((hpop lt l x).1 :: (hpop lt l x).2).Perm (l ++ [x]) ∧ ∀ d ∈ (hpop lt l x).2, Le lt (hpop lt l x).1 d := by
  unfold hpop
  split
  · rename_i e
    subst e
    exact ⟨fun i hi => by simp at hi, by simp, by simp⟩
  · rename_i e
    have h0 : 0 < l.length := List.length_pos_iff.mpr e
    have low : ∀ i, i < l.length → at' (l ++ [x]) i = at' l i := fun i hi => by simp [at', List.getElem?_append_left hi]
    obtain ⟨r1, r2⟩ := siftup_spec T (s := 0) (l := l.set 0 x) (by simpa using h0) ⟨fun i hi h0 hs h1 h2 => by
      rw [List.length_set] at hi
      rw [at_set_ne h1, at_set_ne h2, ← low i hi, ← low (par i) (by unfold par; (first | lia | omega))]
      exact h i (by simp; (first | lia | omega)) h0 hs, fun i hi h0 h1 hp hs => absurd hp (Nat.lt_irrefl 0)⟩
    have per : (l.getD 0 .none :: siftup lt 0 (l.set 0 x)).Perm (l ++ [x]) := by
      refine (List.Perm.cons _ r2).trans ?_
      obtain ⟨y, ys, rfl⟩ : ∃ y ys, l = y :: ys := by
        cases l with
        | nil => exact absurd rfl e
        | cons y ys => exact ⟨y, ys, rfl⟩
      simp only [List.set_cons_zero, List.getD_cons_zero, List.cons_append]
      exact List.Perm.cons _ (List.perm_append_comm (l₁ := [x]))
    refine ⟨r1, per, fun d hd => ?_⟩
    have hm : d ∈ l ++ [x] := per.mem_iff.mp (.tail _ hd)
    refine hide fun P_ hP_ => ?_
    obtain ⟨i, hi, rfl⟩ := List.getElem_of_mem hm
    refine hP_ ?_
    clear hP_ P_
    have := heap_root T h i hi
    rw [low 0 h0] at this
    have e : at' (l ++ [x]) i = (l ++ [x])[i] := by simp only [at', List.getD_eq_getElem?_getD, List.getElem?_eq_getElem hi, Option.getD_some]
    rw [e] at this
    exact this
theorem hfy_spec (T : TO lt) : ∀ (k : Nat) (l : List D), k ≤ l.length → HeapFrom lt l k → HeapFrom lt (hfy lt k l) 0 ∧ (hfy lt k l).Perm l
  | 0, l, _, h => ⟨h, .refl _⟩
  | k + 1, l, hk, h => by
    rw [hfy]
    obtain ⟨r1, r2⟩ := siftup_spec T (s := k) (l := l) hk ⟨fun i hi h0 hs h1 h2 => h i hi h0 (by (first | lia | omega)), fun i hi h0 h1 hp hs => by unfold par at hs; (first | lia | omega)⟩
    obtain ⟨s1, s2⟩ := hfy_spec T k (siftup lt k l) (by rw [siftup_length]; (first | lia | omega)) r1
    exact ⟨s1, s2.trans r2⟩
theorem heapify_spec (T : TO lt) (l : List D) : HeapFrom lt (hfy lt (l.length / 2) l) 0 ∧ (hfy lt (l.length / 2) l).Perm l :=
  hfy_spec T _ l (by (first | lia | omega)) fun i hi h0 hs => by unfold par at hs; (first | lia | omega)
theorem hrep_spec (T : TO lt) {l : List D} {x : D} (h : HeapFrom lt l 0) (h0 : 0 < l.length) : HeapFrom lt (hrep lt l x) 0 ∧ (hrep lt l x).Perm (l.set 0 x) := by
  unfold hrep
  exact siftup_spec T (s := 0) (l := l.set 0 x) (by simpa using h0) ⟨fun i hi h0 hs h1 h2 => by
    rw [List.length_set] at hi
    rw [at_set_ne h1, at_set_ne h2]
    exact h i hi h0 hs, fun i hi h0 h1 hp hs => absurd hp (Nat.lt_irrefl 0)⟩
/-- siftup keeps the things, whatever they are -/
theorem sup_perm {N : Nat} : ∀ (n p : Nat) (l : List D), N - p = n → l.length = N → p < N → ∀ x, ((sup lt N p l).2.set (sup lt N p l).1 x).Perm (l.set p x) := by
  intro n
  induction n using Nat.strongRecOn with
  | _ n ih =>
    intro p l hn hN hp x
    rw [sup]
    split
    · rename_i h
      subst hN
      have c4 := supC_lt lt l h
      exact (ih (l.length - supC lt l.length p l) (by lia) _ (l.set p (at' l (supC lt l.length p l))) rfl List.length_set c4.2 x).trans (perm_move hp c4.2 (by (first | lia | omega)))
    · exact .refl _
theorem siftup_perm (T : TO lt) {s : Nat} {l : List D} (hs : s < l.length) : (siftup lt s l).Perm l := by
  have r4 := sup_perm (lt := lt) (N := l.length) (l.length - s) s l rfl rfl hs
  have b := sup_bound lt l.length _ s l rfl hs
  have ln := sup_length lt l.length _ s l rfl
  unfold siftup sift
  generalize sup lt l.length s l = z at r4 b ln
  obtain ⟨q, m⟩ := z
  dsimp only at *
  have hq : q < m.length := by (first | lia | omega)
  rw [getD_set_self hq]
  refine (sdn_perm T (by simpa using hq)).trans ?_
  rw [List.set_set]
  refine (r4 _).trans ?_
  have e : l.set s (l.getD s .none) = l := by
    rw [List.getD_eq_getElem?_getD, List.getElem?_eq_getElem hs]; simp
  rw [e]
end
end Mine
namespace Mine
open PySem.SeqAt Classical

noncomputable def pushOne (r : List Int) (p : Int) (h : List D) (t : Tie) : List D := if (p = t.n ∨ p = t.f) ∧ (t.n ∉ r ∨ t.f ∉ r) then hpush D.lt h t.d else h
noncomputable def pushAll (ts : List Tie) (r : List Int) (p : Int) (h : List D) : List D := ts.foldl (pushOne r p) h
noncomputable def visitAll (ts : List Tie) : List Int → List Int → List D → List Int × List D
  | [], r, h => (r, h)
  | p :: ps, r, h => visitAll ts ps (r ++ [p]) (pushAll ts (r ++ [p]) p h)
theorem visitAll_append (ts : List Tie) : ∀ (ps : List Int) (q : Int) (r : List Int) (h : List D), visitAll ts (ps ++ [q]) r h = ((visitAll ts ps r h).1 ++ [q], pushAll ts ((visitAll ts ps r h).1 ++ [q]) q (visitAll ts ps r h).2)
  | [], q, r, h => rfl
  | p :: ps, q, r, h => by rw [List.cons_append, visitAll, visitAll_append ts ps q]; rfl
noncomputable def freshOf (t : Tie) (r : List Int) : List Int := [t.n, t.f].filter fun e => decide (e ∉ r)
inductive GR (ts : List Tie) (b : Int) : List D → List Tie → List Int → List Int → Prop
  | init : GR ts b [] [] [] [b]
  | empty {h T r f r'} : GR ts b h T r f → visitAll ts f r h = (r', []) → GR ts b [] T r' []
  | pop {h T r f r' l x} {u : Tie} : GR ts b h T r f → visitAll ts f r h = (r', l ++ [x]) → (hpop D.lt l x).1 = u.d → GR ts b (hpop D.lt l x).2 (if freshOf u r' = [] then T else T ++ [u]) r' (freshOf u r')

/-- what always holds -/
structure GI (ts : List Tie) (h : List D) (T : List Tie) (r f : List Int) : Prop where
  heap : HeapFrom D.lt h 0
  el : ∀ d ∈ h, ∃ t ∈ ts, d = t.d ∧ (t.n ∈ r ∨ t.f ∈ r)
  nd : (r ++ f).Nodup
  rg : ∀ x ∈ r ++ f, 0 ≤ x ∧ x < 5
  sub : ∀ t ∈ T, t ∈ ts
  len : T.length + 1 = (r ++ f).length
  hl : h.length ≤ ts.length * r.length
theorem pushOne_spec {ts : List Tie} {r : List Int} {p : Int} {h : List D} {t : Tie} (hh : HeapFrom D.lt h 0) (hp : p ∈ r) (ht : t ∈ ts) (he : ∀ d ∈ h, ∃ t ∈ ts, d = t.d ∧ (t.n ∈ r ∨ t.f ∈ r)) :
    HeapFrom D.lt (pushOne r p h t) 0 ∧ (∀ d ∈ pushOne r p h t, ∃ t ∈ ts, d = t.d ∧ (t.n ∈ r ∨ t.f ∈ r)) ∧ (pushOne r p h t).length ≤ h.length + 1 ∧
      ∀ d, d ∈ pushOne r p h t ↔ d ∈ h ∨ (d = t.d ∧ (p = t.n ∨ p = t.f) ∧ (t.n ∉ r ∨ t.f ∉ r)) := by
  unfold pushOne
  split
  · rename_i q
    obtain ⟨h1, h2⟩ := hpush_spec TO.ltD (l := h) (x := t.d) hh
    refine ⟨h1, fun d hd => ?_, by rw [h2.length_eq]; simp, fun d => ?_⟩
    · rcases List.mem_append.mp (h2.mem_iff.mp hd) with hd | hd
      · exact he d hd
      · rw [List.mem_singleton.mp hd]
        refine ⟨t, ht, rfl, ?_⟩
        rcases q.1 with e | e
        · exact .inl (e ▸ hp)
        · exact .inr (e ▸ hp)
    · rw [h2.mem_iff, List.mem_append, List.mem_singleton]
      exact ⟨fun z => z.imp id fun z => ⟨z, q⟩, fun z => z.imp id fun z => z.1⟩
  · rename_i q
    exact ⟨hh, he, by (first | lia | omega), fun d => ⟨.inl, fun z => z.elim id fun z => absurd z.2 q⟩⟩
theorem pushAll_spec {ts : List Tie} {r : List Int} {p : Int} (hp : p ∈ r) : ∀ {us : List Tie} {h : List D}, (∀ t ∈ us, t ∈ ts) → HeapFrom D.lt h 0 → (∀ d ∈ h, ∃ t ∈ ts, d = t.d ∧ (t.n ∈ r ∨ t.f ∈ r)) →
    HeapFrom D.lt (pushAll us r p h) 0 ∧ (∀ d ∈ pushAll us r p h, ∃ t ∈ ts, d = t.d ∧ (t.n ∈ r ∨ t.f ∈ r)) ∧ (pushAll us r p h).length ≤ h.length + us.length ∧
      ∀ d, d ∈ pushAll us r p h ↔ d ∈ h ∨ ∃ t ∈ us, d = t.d ∧ (p = t.n ∨ p = t.f) ∧ (t.n ∉ r ∨ t.f ∉ r)
  | [], h, _, hh, he => ⟨hh, he, by simp [pushAll], by simp [pushAll]⟩
  | t :: us, h, hu, hh, he => by
    refine hide fun P_ hP_ => ?_
    obtain ⟨a1, a2, a3, a4⟩ := pushOne_spec hh hp (hu t (.head _)) he
    refine hP_ ?_
    clear hP_ P_
    refine hide fun P_ hP_ => ?_
    obtain ⟨b1, b2, b3, b4⟩ := pushAll_spec (us := us) (h := pushOne r p h t) hp (fun t ht => hu t (.tail _ ht)) a1 a2
    refine hP_ ?_
    clear hP_ P_
    have e : pushAll (t :: us) r p h = pushAll us r p (pushOne r p h t) := rfl
    rw [e]
    refine ⟨b1, b2, by simp; (first | lia | omega), fun d => ?_⟩
    rw [b4, a4]
    constructor
    · rintro ((z | z) | ⟨u, hu, z⟩)
      · exact .inl z
      · exact .inr ⟨t, .head _, z⟩
      · exact .inr ⟨u, .tail _ hu, z⟩
    · rintro (z | ⟨u, hu, z⟩)
      · exact .inl (.inl z)
      · rcases List.mem_cons.mp hu with rfl | hu
        · exact .inl (.inr z)
        · exact .inr ⟨u, hu, z⟩
theorem visitAll_spec {ts : List Tie} : ∀ {f r : List Int} {h : List D}, HeapFrom D.lt h 0 → (∀ d ∈ h, ∃ t ∈ ts, d = t.d ∧ (t.n ∈ r ∨ t.f ∈ r)) →
    (visitAll ts f r h).1 = r ++ f ∧ HeapFrom D.lt (visitAll ts f r h).2 0 ∧ (∀ d ∈ (visitAll ts f r h).2, ∃ t ∈ ts, d = t.d ∧ (t.n ∈ r ++ f ∨ t.f ∈ r ++ f)) ∧ (visitAll ts f r h).2.length ≤ h.length + ts.length * f.length
  | [], r, h, hh, he => ⟨by simp [visitAll], hh, by simpa [visitAll] using he, by simp [visitAll]⟩
  | p :: f, r, h, hh, he => by
    have he' : ∀ d ∈ h, ∃ t ∈ ts, d = t.d ∧ (t.n ∈ r ++ [p] ∨ t.f ∈ r ++ [p]) := fun d hd => by
      refine hide fun P_ hP_ => ?_
      obtain ⟨t, h1, h2, h3⟩ := he d hd
      refine hP_ ?_
      clear hP_ P_
      exact ⟨t, h1, h2, h3.imp (List.mem_append_left _) (List.mem_append_left _)⟩
    refine hide fun P_ hP_ => ?_
    obtain ⟨a1, a2, a3, -⟩ := pushAll_spec (ts := ts) (r := r ++ [p]) (p := p) (us := ts) (by simp) (fun t ht => ht) hh he'
    refine hP_ ?_
    clear hP_ P_
    refine hide fun P_ hP_ => ?_
    obtain ⟨b1, b2, b3, b4⟩ := visitAll_spec (f := f) (r := r ++ [p]) a1 a2
    refine hP_ ?_
    clear hP_ P_
    rw [visitAll]
    refine ⟨by rw [b1]; simp, b2, fun d hd => ?_, ?_⟩
    · refine hide fun P_ hP_ => ?_
      obtain ⟨t, h1, h2, h3⟩ := b3 d hd
      refine hP_ ?_
      clear hP_ P_
      exact ⟨t, h1, h2, by simpa using h3⟩
    · rw [List.length_cons, Nat.mul_succ]; (first | lia | omega)
theorem freshOf_spec {t : Tie} {r : List Int} (h : t.n ∈ r ∨ t.f ∈ r) (hne : t.n ≠ t.f) : freshOf t r = [] ∧ t.n ∈ r ∧ t.f ∈ r ∨ ∃ x, freshOf t r = [x] ∧ x ∉ r ∧ ((x = t.n ∧ t.f ∈ r) ∨ (x = t.f ∧ t.n ∈ r)) := by
  unfold freshOf
  by_cases h1 : t.n ∈ r <;> by_cases h2 : t.f ∈ r
  · exact .inl ⟨by simp [h1, h2], h1, h2⟩
  · exact .inr ⟨t.f, by simp [h1, h2], h2, .inr ⟨rfl, h1⟩⟩
  · exact .inr ⟨t.n, by simp [h1, h2], h1, .inl ⟨rfl, h2⟩⟩
  · exact absurd h (by simp [h1, h2])
/-- the ties' shape -/
structure TsOk (ts : List Tie) : Prop where
  rg : ∀ t ∈ ts, (0 ≤ t.n ∧ t.n < 5) ∧ 0 ≤ t.f ∧ t.f < 5
  ne : ∀ t ∈ ts, t.n ≠ t.f
theorem GR.inv {ts : List Tie} {b : Int} (ok : TsOk ts) (hb : 0 ≤ b ∧ b < 5) {h : List D} {T : List Tie} {r f : List Int} (g : GR ts b h T r f) : GI ts h T r f := by
  induction g with
  | init => exact ⟨fun i hi => by simp at hi, by simp, by simp, by simpa using hb, by simp, by simp, by simp⟩
  | @empty h T r f r' _ hv ih =>
    refine hide fun P_ hP_ => ?_
    obtain ⟨b1, b2, b3, b4⟩ := visitAll_spec (ts := ts) (f := f) ih.heap ih.el
    refine hP_ ?_
    clear hP_ P_
    rw [hv] at b1
    dsimp only at b1
    subst b1
    exact ⟨fun i hi => by simp at hi, by simp, by simpa using ih.nd, by simpa using ih.rg, ih.sub, by simpa using ih.len, by simp⟩
  | @pop h T r f r' l x u _ hv hu ih =>
    refine hide fun P_ hP_ => ?_
    obtain ⟨b1, b2, b3, b4⟩ := visitAll_spec (ts := ts) (f := f) ih.heap ih.el
    refine hP_ ?_
    clear hP_ P_
    rw [hv] at b1 b2 b3
    dsimp only at b1 b2 b3
    subst b1
    refine hide fun P_ hP_ => ?_
    obtain ⟨c1, c2, c3⟩ := hpop_spec TO.ltD b2
    refine hP_ ?_
    clear hP_ P_
    refine hide fun P_ hP_ => ?_
    obtain ⟨u', hu1, hu2, hu3⟩ := b3 (hpop D.lt l x).1 (c2.mem_iff.mp (.head _))
    refine hP_ ?_
    clear hP_ P_
    rw [hu] at hu2
    have := Tie.d_inj hu2
    subst this
    refine ⟨c1, fun d hd => b3 d (c2.mem_iff.mp (.tail _ hd)), ?_, ?_, ?_, ?_, ?_⟩
    · rcases freshOf_spec hu3 (ok.ne u hu1) with ⟨e, -⟩ | ⟨y, e, hy, -⟩
      · rw [e]; simpa using ih.nd
      · rw [e, List.nodup_append]
        refine ⟨ih.nd, by simp, fun z hz w hw => ?_⟩
        rw [List.mem_singleton.mp hw]
        rintro rfl; exact hy hz
    · intro y hy
      rcases List.mem_append.mp hy with hy | hy
      · exact ih.rg y hy
      · unfold freshOf at hy
        have := (List.mem_filter.mp hy).1
        simp at this
        rcases this with rfl | rfl
        · exact (ok.rg u hu1).1
        · exact (ok.rg u hu1).2
    · split
      · exact ih.sub
      · intro t ht
        rcases List.mem_append.mp ht with ht | ht
        · exact ih.sub t ht
        · rw [List.mem_singleton.mp ht]; exact hu1
    · rcases freshOf_spec hu3 (ok.ne u hu1) with ⟨e, -⟩ | ⟨y, e, hy, -⟩
      · rw [if_pos e, e]; simpa using ih.len
      · rw [if_neg (by rw [e]; simp), e]
        have := ih.len
        simp at this ⊢; (first | lia | omega)
    · have h1 := c2.length_eq
      rw [hv] at b4
      dsimp only at b4
      have h2 := ih.hl
      simp only [List.length_cons, List.length_append, Nat.mul_add] at h1 b4 ⊢
      (first | lia | omega)

def S3 (σ : Sto) (a b c : Addr) (h : List D) (T : List Tie) (r : List Int) : Sto := ((σ.set a h).set b (T.map Tie.d)).set c (r.map D.int)
section
variable {σ : Sto} {a b c : Addr} {h h' : List D} {T T' : List Tie} {r r' : List Int}
theorem S3.ga (hab : b ≠ a) (hac : c ≠ a) : S3 σ a b c h T r a = some h := by
  unfold S3; rw [Sto.set_ne _ _ (Ne.symm hac), Sto.set_ne _ _ (Ne.symm hab), Sto.set_self]
theorem S3.gb (hbc : c ≠ b) : S3 σ a b c h T r b = some (T.map Tie.d) := by
  unfold S3; rw [Sto.set_ne _ _ (Ne.symm hbc), Sto.set_self]
theorem S3.gc : S3 σ a b c h T r c = some (r.map D.int) := by unfold S3; rw [Sto.set_self]
theorem S3.setA (hab : b ≠ a) (hac : c ≠ a) : (S3 σ a b c h T r).set a h' = S3 σ a b c h' T r := by
  unfold S3; rw [Sto.set_comm _ _ _ hac, Sto.set_comm _ _ _ hab, Sto.set_set]
theorem S3.setB (hbc : c ≠ b) : (S3 σ a b c h T r).set b (T'.map Tie.d) = S3 σ a b c h T' r := by
  unfold S3; rw [Sto.set_comm _ _ _ hbc, Sto.set_set]
theorem S3.setC : (S3 σ a b c h T r).set c (r'.map D.int) = S3 σ a b c h T r' := by
  unfold S3; rw [Sto.set_set]
theorem S3.low (ha : σ a = none) (hb : σ b = none) (hc : σ c = none) (x : Addr) (l : List D) (e : σ x = some l) : (S3 σ a b c h T r).del b x = some l := by
  have h1 : x ≠ a := by rintro rfl; rw [ha] at e; cases e
  have h2 : x ≠ b := by rintro rfl; rw [hb] at e; cases e
  have h3 : x ≠ c := by rintro rfl; rw [hc] at e; cases e
  unfold S3 Sto.del
  rw [if_neg h2, Sto.set_ne _ _ h3, Sto.set_ne _ _ h2, Sto.set_ne _ _ h1]
  exact e
end
theorem has_lint {l : List Int} : Has (.lst .int) (.lst (l.map D.int)) := by
  rw [Has]; exact has_ints
theorem has_lst {t : Ty} {l : List D} (h : ∀ d ∈ l, Has t d) : Has (.lst t) (.lst l) := by rw [Has]; exact h
theorem mem_ends {p : Int} {t : Tie} : (D.int p ∈ [D.int t.n, D.int t.f]) ↔ (p = t.n ∨ p = t.f) := by simp
theorem hd_ties {ts : List Tie} {h : List D} {P : Tie → Prop} (he : ∀ d ∈ h, ∃ t ∈ ts, d = t.d ∧ P t) : ∀ d ∈ h, Has tyT d := fun d hd => by
  refine hide fun P_ hP_ => ?_
  obtain ⟨t, -, rfl, -⟩ := he d hd
  refine hP_ ?_
  clear hP_ P_
  exact has_tie t

theorem tst_mono {c : Cx} {ρ : Vars} {σ : Sto} {e : Expr} {K K' : Bool → Sto → Prop} (h : Tst c ρ σ e K) (hK : ∀ b σ', K b σ' → K' b σ') : Tst c ρ σ e K' := fun Z Y s Q X S q =>
  h Z Y s Q X S fun Z' b σ' s' x k S' => q Z' b σ' s' x (hK b σ' k) S'
theorem visit_pre {ts : List Tie} {f r : List Int} {h : List D} (hh : HeapFrom D.lt h 0) (he : ∀ d ∈ h, ∃ t ∈ ts, d = t.d ∧ (t.n ∈ r ∨ t.f ∈ r)) (hz : ts.length ≤ 8) (hf : r.length + f.length ≤ 5) (hl : h.length ≤ 40) {ps qs : List Int} (e : f = ps ++ qs) :
    (visitAll ts ps r h).1 = r ++ ps ∧ HeapFrom D.lt (visitAll ts ps r h).2 0 ∧ (∀ d ∈ (visitAll ts ps r h).2, ∃ t ∈ ts, d = t.d ∧ (t.n ∈ r ++ ps ∨ t.f ∈ r ++ ps)) ∧ (visitAll ts ps r h).2.length ≤ h.length + 8 * ps.length ∧ ps.length ≤ 5 := by
  refine hide fun P_ hP_ => ?_
  obtain ⟨b1, b2, b3, b4⟩ := visitAll_spec (ts := ts) (f := ps) hh he
  refine hP_ ?_
  clear hP_ P_
  have hp : ps.length ≤ 5 := by rw [e] at hf; simp at hf; (first | lia | omega)
  refine ⟨b1, b2, b3, ?_, hp⟩
  have : ts.length * ps.length ≤ 8 * ps.length := Nat.mul_le_mul_right _ hz
  (first | lia | omega)
end Mine
namespace Mine
open PySem.SeqAt Classical

noncomputable def KOk {α : Type} (n : Nat) (c : Nat → Nat → Bool) : KasT α → (α → Prop) → Prop
  | .ret a, Q => Q a
  | .ask i j k, Q => i < n ∧ j < n ∧ KOk n c (k (c i j)) Q
theorem KOk.bind {α β : Type} {n : Nat} {c : Nat → Nat → Bool} {f : α → KasT β} {Q : β → Prop} : ∀ {t : KasT α}, KOk n c t (fun a => KOk n c (f a) Q) → KOk n c (t.bind f) Q
  | .ret _, h => h
  | .ask i j k, h => ⟨h.1, h.2.1, KOk.bind h.2.2⟩
theorem KOk.mono {α : Type} {n : Nat} {c : Nat → Nat → Bool} {Q Q' : α → Prop} (hq : ∀ a, Q a → Q' a) : ∀ {t : KasT α}, KOk n c t Q → KOk n c t Q'
  | .ret a, h => hq a h
  | .ask i j k, h => ⟨h.1, h.2.1, KOk.mono hq h.2.2⟩
theorem KOk.wp {α : Type} {n : Nat} {c : Nat → Nat → Bool} {cmp : Nat → Nat → (Bool → Shared → Prop) → Shared → Prop} {s : Shared} (hc : ∀ i j C, i < n → j < n → C (c i j) s → cmp i j C s) {Q : α → Shared → Prop} : ∀ {t : KasT α}, KOk n c t (fun a => Q a s) → t.kasWp cmp Q s
  | .ret a, h => h
  | .ask i j k, h => hc i j _ h.1 h.2.1 (KOk.wp hc h.2.2)

section
variable {lt : D → D → Bool} {key : Nat → D} {n : Nat}
/-- a field of places below n -/
structure PA (n : Nat) (p : Array Nat) : Prop where
  size : p.size = n
  perm : p.toList.Perm (List.range n)
theorem PA.bd {p : Array Nat} (h : PA n p) (hn : 0 < n) (i : Nat) : p.getD i 0 < n := by
  by_cases hi : i < p.size
  · have e : p.getD i 0 = p[i] := by simp [Array.getD, hi]
    rw [e]
    have : p[i] ∈ p.toList := by simp
    exact List.mem_range.mp (h.perm.mem_iff.mp this)
  · have e : p.getD i 0 = 0 := by simp [Array.getD, hi]
    rw [e]; exact hn
theorem PA.rev {p : Array Nat} (h : PA n p) (i j : Nat) : PA n (kas_rev p i j) :=
  ⟨(mirror_size ..).trans h.size, (Array.perm_iff_toList_perm.mp (mirror_perm ..)).trans h.perm⟩
theorem PA.bub {p : Array Nat} (h : PA n p) (k d : Nat) : PA n (bubble p k d) :=
  ⟨(bubble_size ..).trans h.size, (Array.perm_iff_toList_perm.mp (bubble_perm ..)).trans h.perm⟩
def gk (key : Nat → D) (p : Array Nat) (k : Nat) : D := key (p.getD k 0)
theorem gk_eq (p : Array Nat) (k : Nat) : gk key p k = key ((p[k]?).getD 0) := by unfold gk; rw [Array.getD_eq_getD_getElem?]
theorem gk_rev {p : Array Nat} {i j : Nat} (hj : j ≤ p.size) (k : Nat) : gk key (kas_rev p i j) k = if i ≤ k ∧ k < j then gk key p (i + j - 1 - k) else gk key p k := by
  rw [gk_eq, gk_eq, gk_eq]
  unfold kas_rev
  rw [getElem?_mirror_all hj k]
  split <;> rfl
theorem gk_bub {p : Array Nat} {src d : Nat} (hs : src < p.size) (hd : d ≤ src) (k : Nat) : gk key (bubble p src d) k = if k = src - d then gk key p src else if src - d < k ∧ k ≤ src then gk key p (k - 1) else gk key p k := by
  rw [gk_eq, gk_eq, gk_eq, gk_eq, getElem?_bubble hs d hd k]
  split
  · rfl
  · split <;> rfl
theorem gk_rev_same {p : Array Nat} {i j : Nat} (hj : j ≤ p.size) (he : ∀ k, i ≤ k → k < j → gk key p k = gk key p (j - 1)) (k : Nat) : gk key (kas_rev p i j) k = gk key p k := by
  rw [gk_rev hj]
  split
  · rename_i h
    rw [he _ (by (first | lia | omega)) (by (first | lia | omega)), he k h.1 h.2]
  · rfl
def Asc (lt : D → D → Bool) (key : Nat → D) (p : Array Nat) (m : Nat) : Prop := ∀ k, 0 < k → k < m → lt (gk key p k) (gk key p (k - 1)) = false
def Dsc (lt : D → D → Bool) (key : Nat → D) (p : Array Nat) (m : Nat) : Prop := ∀ k, 0 < k → k < m → lt (gk key p (k - 1)) (gk key p k) = false
abbrev cmpK (lt : D → D → Bool) (key : Nat → D) (i j : Nat) : Bool := lt (key i) (key j)
theorem asc_ok (hn : 0 < n) {p : Array Nat} (h : PA n p) {Q : Nat → Prop} : ∀ (f m : Nat), (∀ m', m ≤ m' → m' ≤ m + f → (∀ k, m ≤ k → k < m' → lt (gk key p k) (gk key p (k - 1)) = false) → (m' < m + f → lt (gk key p m') (gk key p (m' - 1)) = true) → Q m') → KOk n (cmpK lt key) (kas_asc p f m) Q
  | 0, m, q => q m (Nat.le_refl _) (Nat.le_refl _) (fun k h1 h2 => by (first | lia | omega)) (fun h => by (first | lia | omega))
  | f + 1, m, q => by
    refine ⟨h.bd hn _, h.bd hn _, ?_⟩
    cases hc : cmpK lt key (p.getD m 0) (p.getD (m - 1) 0) with
    | true =>
      dsimp only
      rw [if_pos rfl]
      exact q m (Nat.le_refl _) (by (first | lia | omega)) (fun k h1 h2 => by (first | lia | omega)) fun _ => hc
    | false =>
      dsimp only
      rw [if_neg (by decide)]
      refine asc_ok hn h f (m + 1) fun m' h1 h2 h3 h4 => q m' (by (first | lia | omega)) (by (first | lia | omega)) (fun k k1 k2 => ?_) fun k => h4 (by (first | lia | omega))
      by_cases e : k = m
      · rw [e]; exact hc
      · exact h3 k (by (first | lia | omega)) k2
structure DI (lt : D → D → Bool) (key : Nat → D) (n : Nat) (p : Array Nat) (m q : Nat) : Prop where
  pa : PA n p
  dsc : Dsc lt key p m
  eq : ∀ k, m - (q + 1) ≤ k → k < m → gk key p k = gk key p (m - 1)
  q : q + 1 ≤ m
theorem desc_ok (T : TO lt) (hn : 0 < n) {Q : Array Nat × Nat × Nat → Prop} : ∀ (f : Nat) (p : Array Nat) (m q : Nat), DI lt key n p m q → m + f ≤ n →
    (∀ p' m' q', DI lt key n p' m' q' → m ≤ m' → m' ≤ m + f → Q (p', m', q')) → KOk n (cmpK lt key) (kas_desc f p m q) Q
  | 0, p, m, q, h, _, hQ => hQ p m q h (Nat.le_refl _) (Nat.le_refl _)
  | f + 1, p, m, q, h, hm, hQ => by
    refine ⟨h.pa.bd hn _, h.pa.bd hn _, ?_⟩
    cases hc : cmpK lt key (p.getD m 0) (p.getD (m - 1) 0) with
    | true =>
      dsimp only
      rw [if_pos rfl]
      have next : ∀ p', PA n p' → (∀ k, gk key p' k = gk key p k) → DI lt key n p' (m + 1) 0 := fun p' pa e => by
        refine ⟨pa, fun k h1 h2 => ?_, fun k h1 h2 => ?_, by (first | lia | omega)⟩
        · rw [e, e]
          by_cases z : k = m
          · rw [z]; exact T.asymm hc
          · exact h.dsc k h1 (by (first | lia | omega))
        · have : k = m := by (first | lia | omega)
          rw [this]; rfl
      split
      · exact desc_ok T hn f _ (m + 1) 0 (next _ (h.pa.rev _ _) (gk_rev_same (by rw [h.pa.size]; (first | lia | omega)) h.eq)) (by (first | lia | omega)) fun p' m' q' a b c => hQ p' m' q' a (by (first | lia | omega)) (by (first | lia | omega))
      · exact desc_ok T hn f _ (m + 1) 0 (next _ h.pa fun _ => rfl) (by (first | lia | omega)) fun p' m' q' a b c => hQ p' m' q' a (by (first | lia | omega)) (by (first | lia | omega))
    | false =>
      dsimp only
      rw [if_neg (by decide)]
      refine ⟨h.pa.bd hn _, h.pa.bd hn _, ?_⟩
      cases hd : cmpK lt key (p.getD (m - 1) 0) (p.getD m 0) with
      | true => dsimp only; rw [if_pos rfl]; exact hQ p m q h (Nat.le_refl _) (by (first | lia | omega))
      | false =>
        dsimp only
        rw [if_neg (by decide)]
        have e : gk key p m = gk key p (m - 1) := T.antisymm hd hc
        refine desc_ok T hn f p (m + 1) (q + 1) ⟨h.pa, fun k h1 h2 => ?_, fun k h1 h2 => ?_, by have := h.q; (first | lia | omega)⟩ (by (first | lia | omega)) fun p' m' q' a b c => hQ p' m' q' a (by (first | lia | omega)) (by (first | lia | omega))
        · by_cases z : k = m
          · rw [z]; exact hd
          · exact h.dsc k h1 (by (first | lia | omega))
        · show gk key p k = gk key p (m + 1 - 1)
          rw [Nat.add_sub_cancel]
          by_cases z : k = m
          · rw [z]
          · rw [e]; exact h.eq k (by (first | lia | omega)) (by (first | lia | omega))
def CountOk (lt : D → D → Bool) (key : Nat → D) (n : Nat) (r : Nat × Array Nat) : Prop := PA n r.2 ∧ Asc lt key r.2 r.1 ∧ r.1 ≤ n
theorem tail3_ok (T : TO lt) (hn : 0 < n) {p : Array Nat} {m : Nat} (pa : PA n p) (hd : Dsc lt key p m) (hm : m ≤ n) : KOk n (cmpK lt key) (kas_tail3 m n p) (CountOk lt key n) := by
  unfold kas_tail3
  refine KOk.bind (asc_ok hn (pa.rev 0 m) (n - m) m fun m' h1 h2 h3 _ => ⟨pa.rev 0 m, fun k k1 k2 => ?_, by (first | lia | omega)⟩)
  by_cases z : k < m
  · dsimp only
    rw [gk_rev (by rw [pa.size]; exact hm), gk_rev (by rw [pa.size]; exact hm), if_pos (by (first | lia | omega)), if_pos (by (first | lia | omega))]
    have := hd (m - k) (by (first | lia | omega)) (by (first | lia | omega))
    rw [show 0 + m - 1 - (k - 1) = m - k from by (first | lia | omega), show 0 + m - 1 - k = m - k - 1 from by (first | lia | omega)]
    exact this
  · exact h3 k (by (first | lia | omega)) k2
theorem descPart_ok (T : TO lt) (hn : 0 < n) {p : Array Nat} {m : Nat} (h : DI lt key n p (m + 1) 0) (hm : m + 1 ≤ n) : KOk n (cmpK lt key) (kas_descPart m n p) (CountOk lt key n) := by
  unfold kas_descPart
  refine KOk.bind (desc_ok T hn (n - (m + 1)) p (m + 1) 0 h (by (first | lia | omega)) fun p' m' q' a b c => ?_)
  dsimp only
  split
  · have e := gk_rev_same (key := key) (p := p') (i := m' - (q' + 1)) (j := m') (by rw [a.pa.size]; (first | lia | omega)) a.eq
    exact tail3_ok T hn (a.pa.rev _ _) (fun k h1 h2 => by rw [e, e]; exact a.dsc k h1 h2) (by (first | lia | omega))
  · exact tail3_ok T hn a.pa a.dsc (by (first | lia | omega))
theorem count_ok (T : TO lt) (hn : 0 < n) {p : Array Nat} (pa : PA n p) : KOk n (cmpK lt key) (kas_count n p) (CountOk lt key n) := by
  unfold kas_count
  refine KOk.bind (asc_ok hn pa (n - 1) 1 fun m h1 h2 h3 h4 => ?_)
  have asc : Asc lt key p m := fun k k1 k2 => h3 k k1 k2
  by_cases z : m = n
  · rw [if_pos (by rw [z]; exact beq_self_eq_true n)]
    exact ⟨pa, asc, by (first | lia | omega)⟩
  · rw [if_neg (by rw [beq_iff_eq]; exact z)]
    have top : lt (gk key p m) (gk key p (m - 1)) = true := h4 (by (first | lia | omega))
    split
    · rename_i hm1
      refine ⟨pa.bd hn _, pa.bd hn _, ?_⟩
      cases hc : cmpK lt key (p.getD 0 0) (p.getD (m - 1) 0) with
      | true => dsimp only; rw [if_pos rfl]; exact ⟨pa, asc, by dsimp only; (first | lia | omega)⟩
      | false =>
        dsimp only
        rw [if_neg (by decide)]
        have up : ∀ k, k < m → Le lt (gk key p 0) (gk key p k) := by
          intro k
          induction k with
          | zero => exact fun _ => T.refl _
          | succ k ih => exact fun hk => T.trans (ih (by (first | lia | omega))) (asc (k + 1) (by (first | lia | omega)) hk)
        have dn : ∀ d k, k + d + 1 = m → Le lt (gk key p k) (gk key p (m - 1)) := by
          intro d
          induction d with
          | zero => intro k hk; rw [show m - 1 = k from by (first | lia | omega)]; exact T.refl _
          | succ d ih => intro k hk; exact T.trans (asc (k + 1) (by (first | lia | omega)) (by (first | lia | omega))) (ih (k + 1) (by (first | lia | omega)))
        have all : ∀ k, k < m → gk key p k = gk key p (m - 1) := fun k hk => T.antisymm (dn (m - 1 - k) k (by (first | lia | omega))) (T.trans hc (up k hk))
        have e := gk_rev_same (key := key) (p := p) (i := 0) (j := m) (by rw [pa.size]; (first | lia | omega)) fun k _ hk => all k hk
        refine descPart_ok T hn ⟨pa.rev _ _, fun k k1 k2 => ?_, fun k k1 k2 => ?_, by (first | lia | omega)⟩ (by (first | lia | omega))
        · rw [e, e]
          by_cases y : k = m
          · rw [y]; exact T.asymm top
          · rw [all k (by (first | lia | omega)), all (k - 1) (by (first | lia | omega))]; exact T.irr _
        · have : k = m := by (first | lia | omega)
          rw [this]; rfl
    · have m1 : m = 1 := by (first | lia | omega)
      subst m1
      refine descPart_ok T hn ⟨pa, fun k k1 k2 => ?_, fun k k1 k2 => ?_, by (first | lia | omega)⟩ (by (first | lia | omega))
      · have : k = 1 := by (first | lia | omega)
        rw [this]; exact T.asymm top
      · have : k = 1 := by (first | lia | omega)
        rw [this]
theorem place_ok (T : TO lt) (hn : 0 < n) {p : Array Nat} (pa : PA n p) {k : Nat} (asc : Asc lt key p k) {Q : Nat → Prop} : ∀ (f l r : Nat), l ≤ r → r ≤ k → r - l ≤ f → (∀ x, x < l → lt (gk key p k) (gk key p x) = false) → (∀ x, r ≤ x → x < k → lt (gk key p k) (gk key p x) = true) →
    (∀ l', l' ≤ k → (∀ x, x < l' → lt (gk key p k) (gk key p x) = false) → (∀ x, l' ≤ x → x < k → lt (gk key p k) (gk key p x) = true) → Q l') → KOk n (cmpK lt key) (kas_place p k f l r) Q
  | 0, l, r, h1, h2, h3, h4, h5, hQ => hQ l (by (first | lia | omega)) h4 (fun x a b => h5 x (by (first | lia | omega)) b)
  | f + 1, l, r, h1, h2, h3, h4, h5, hQ => by
    have up : ∀ x y, x ≤ y → y < k → Le lt (gk key p x) (gk key p y) := by
      intro x y hxy hy
      induction y with
      | zero => rw [show x = 0 from by (first | lia | omega)]; exact T.refl _
      | succ y ih =>
        by_cases z : x = y + 1
        · rw [z]; exact T.refl _
        · exact T.trans (ih (by (first | lia | omega)) (by (first | lia | omega))) (asc (y + 1) (by (first | lia | omega)) hy)
    rw [kas_place]
    split
    · exact hQ l (by (first | lia | omega)) h4 (fun x a b => h5 x (by (first | lia | omega)) b)
    · refine ⟨pa.bd hn _, pa.bd hn _, ?_⟩
      cases hc : cmpK lt key (p.getD k 0) (p.getD ((l + r) / 2) 0) with
      | true =>
        dsimp only
        rw [if_pos rfl]
        refine place_ok T hn pa asc f l ((l + r) / 2) (by (first | lia | omega)) (by (first | lia | omega)) (by (first | lia | omega)) h4 (fun x a b => ?_) hQ
        have := up _ x a b
        cases q : lt (gk key p k) (gk key p x) with
        | true => rfl
        | false =>
          have h6 : Le lt (gk key p ((l + r) / 2)) (gk key p k) := T.trans this q
          rw [Le] at h6
          exact absurd (show lt (gk key p k) (gk key p ((l + r) / 2)) = true from hc) (by rw [h6]; decide)
      | false =>
        dsimp only
        rw [if_neg (by decide)]
        refine place_ok T hn pa asc f ((l + r) / 2 + 1) r (by (first | lia | omega)) h2 (by (first | lia | omega)) (fun x a => ?_) h5 hQ
        exact T.trans (up x ((l + r) / 2) (by (first | lia | omega)) (by (first | lia | omega))) hc
theorem bin_ok (T : TO lt) (hn : 0 < n) : ∀ (f : Nat) (p : Array Nat) (k : Nat), PA n p → Asc lt key p k → k + f = n → KOk n (cmpK lt key) (kas_bin f p k) fun p' => PA n p' ∧ Asc lt key p' n
  | 0, p, k, pa, asc, hk => ⟨pa, by rw [← hk]; exact asc⟩
  | f + 1, p, k, pa, asc, hk => by
    rw [kas_bin]
    refine KOk.bind (place_ok T hn pa asc k 0 k (by (first | lia | omega)) (by (first | lia | omega)) (by (first | lia | omega)) (fun x hx => by (first | lia | omega)) (fun x a b => by (first | lia | omega)) fun l hl a b => ?_)
    refine bin_ok T hn f _ (k + 1) (pa.bub _ _) (fun x x1 x2 => ?_) (by (first | lia | omega))
    have hs : k < p.size := by rw [pa.size]; (first | lia | omega)
    have kl : k - (k - l) = l := by (first | lia | omega)
    rw [gk_bub hs (by (first | lia | omega)), gk_bub hs (by (first | lia | omega)), kl]
    by_cases c1 : x = l
    · rw [if_pos c1, if_neg (by (first | lia | omega)), if_neg (by (first | lia | omega))]
      exact a _ (by (first | lia | omega))
    · rw [if_neg c1]
      by_cases c2 : l < x ∧ x ≤ k
      · rw [if_pos c2]
        by_cases c3 : x - 1 = l
        · rw [if_pos c3, c3]
          exact T.asymm (b l (Nat.le_refl _) (by (first | lia | omega)))
        · rw [if_neg c3, if_pos (by (first | lia | omega))]
          exact asc (x - 1) (by (first | lia | omega)) (by (first | lia | omega))
      · rw [if_neg c2, if_neg (by (first | lia | omega)), if_neg (by (first | lia | omega))]
        exact asc x x1 (by (first | lia | omega))
theorem sort_ok (T : TO lt) (hn : 0 < n) : KOk n (cmpK lt key) (kas_sort n) fun p => PA n p ∧ Asc lt key p n := by
  unfold kas_sort
  have pa0 : PA n (List.toArray (List.range n)) := ⟨by simp, by simp⟩
  refine KOk.bind (KOk.mono (fun r hr => ?_) (count_ok T hn pa0))
  refine hide fun P_ hP_ => ?_
  obtain ⟨h1, h2, h3⟩ := hr
  refine hP_ ?_
  clear hP_ P_
  split
  · rename_i hlt
    refine bin_ok T hn _ _ _ h1 (fun k k1 k2 => ?_) (by (first | lia | omega))
    exact h2 k k1 (by (first | lia | omega))
  · have : r.1 = n := by (first | lia | omega)
    exact ⟨h1, by rw [← this]; exact h2⟩
end
end Mine
namespace Mine
open PySem.SeqAt Classical

section
variable {c : Cx} {Z Y : Zone} {ρ : Vars} {σ : Sto} {s : Shared} {K : V → Sto → Prop}
/-- a heap that keeps everything but the frame's object, which still says the same -/
theorem St.keepL (S : St c Z Y ρ σ s) (hk : c.Ok) {h' : Heap} {tk : Nat} (k : ∀ b o, b ≠ c.env.locals → s.heap.get? b = some o → h'.get? b = some o) {m : Str → Option Value} (hn : h'.Ns c.env.locals m)
    (hm : ∀ x v, ρ x = some v → c.env.kindOf (Str.ofString x) = some .local → ∃ u, m (Str.ofString x) = some u ∧ RV Z u v) : St c Z Y ρ σ { s with heap := h', toks := tk } := by
  refine hide fun P_ hP_ => ?_
  obtain ⟨o1, o2, o3, -⟩ := S.own _ hk.L
  refine hP_ ?_
  clear hP_ P_
  refine ⟨⟨by rw [S.g.same], S.g.base, fun a o e => k a o (fun q => ?_) (S.g.keep a o e), fun a o e => k a o (fun q => ?_) (S.g.keepY a o e), S.g.zy, fun a l e => ?_⟩, ⟨m, hn, hm⟩, fun y v e hy => ?_, fun y a e => ?_, fun a ha => ?_⟩
  · rw [q, o1] at e; cases e
  · rw [q, o2] at e; cases e
  · refine hide fun P_ hP_ => ?_
    obtain ⟨h1, h2, vs, n, h3, h4⟩ := S.g.lists a l e
    refine hP_ ?_
    clear hP_ P_
    exact ⟨h1, h2, vs, n, k a _ (fun q => by rw [q, o3] at e; cases e) h3, h4⟩
  · refine hide fun P_ hP_ => ?_
    obtain ⟨a, u, e1, ⟨o, e2, e3⟩, e4⟩ := S.cell y v e hy
    refine hP_ ?_
    clear hP_ P_
    exact ⟨a, u, e1, ⟨o, k _ _ (hk.notL _ _ e1) e2, e3⟩, e4⟩
  · refine hide fun P_ hP_ => ?_
    obtain ⟨⟨u, o, e2, e3⟩, e4⟩ := S.cells y a e
    refine hP_ ?_
    clear hP_ P_
    exact ⟨⟨u, o, k _ _ (hk.notL _ _ e) e2, e3⟩, e4⟩
  · refine hide fun P_ hP_ => ?_
    obtain ⟨h1, h2, h3, o, h4⟩ := S.own a ha
    refine hP_ ?_
    clear hP_ P_
    refine ⟨h1, h2, h3, ?_⟩
    by_cases q : a = c.env.locals
    · obtain ⟨oL, _, _, e, _⟩ := hn; rw [q]; exact ⟨oL, e⟩
    · exact ⟨o, k _ _ q h4⟩
/-- every object of a heap but one -/
def newsOf (h : Heap) (L : Addr) : List (Addr × Obj) := (List.range h.objs.size).filterMap fun a => if a = L then none else (h.get? a).map fun o => (a, o)
theorem newsOf_mem {h : Heap} {L a : Addr} {o : Obj} : (a, o) ∈ newsOf h L ↔ a ≠ L ∧ h.get? a = some o := by
  unfold newsOf
  rw [List.mem_filterMap]
  constructor
  · rintro q0_
    refine hide fun P_ hP_ => ?_
    obtain ⟨b, hb, e⟩ := q0_
    refine hP_ ?_
    clear hP_ P_
    split at e
    · cases e
    · rename_i q
      refine hide fun P_ hP_ => ?_
      obtain ⟨o', ho, e⟩ := Option.map_eq_some_iff.mp e
      refine hP_ ?_
      clear hP_ P_
      cases e
      exact ⟨q, ho⟩
  · rintro ⟨q, ho⟩
    exact ⟨a, List.mem_range.mpr (Heap.lt_size ho), by rw [if_neg q, ho]; rfl⟩
theorem newsOf_news {h₀ h : Heap} {L : Addr} (h0 : ∀ a, h₀.get? a = none) : News h₀ L h (newsOf h L) := fun p hp => by
  obtain ⟨q, ho⟩ := newsOf_mem.mp (show (p.1, p.2) ∈ _ from hp)
  exact ⟨ho, q, h0 _⟩

theorem Rvs.pick {vs : List Value} {ds : List D} (r : Rvs Z vs ds) : ∀ {is : List Nat}, (∀ i ∈ is, i < ds.length) → Rvs Z (is.map fun i => vs.getD i Value.none) (is.map fun i => ds.getD i .none)
  | [], _ => .nil
  | i :: is, h => by
    refine hide fun P_ hP_ => ?_
    obtain ⟨v, hv, rv⟩ := r.get (getD_get (h i (.head _)))
    refine hP_ ?_
    clear hP_ P_
    refine .cons ?_ (Rvs.pick r fun j hj => h j (.tail _ hj))
    show Rv Z (vs.getD i Value.none) (ds.getD i .none)
    rw [List.getD_eq_getElem?_getD, hv]
    exact rv
theorem pick_range (ds : List D) : (List.range ds.length).map (fun i => ds.getD i .none) = ds := by
  apply List.ext_getElem?
  intro i
  rw [List.getElem?_map]
  by_cases h : i < ds.length
  · rw [List.getElem?_range h, getD_get h]; rfl
  · rw [List.getElem?_eq_none (by simpa using h), List.getElem?_eq_none (by simpa using h)]; rfl
theorem asc_pairwise {lt : D → D → Bool} (T : TO lt) {ds : List D} {p : Array Nat} (pa : PA ds.length p) (asc : Asc lt (fun i => ds.getD i .none) p ds.length) : (p.toList.map fun i => ds.getD i .none).Pairwise fun a b => lt b a = false := by
  rw [List.pairwise_iff_getElem]
  intro i j hi hj hij
  simp only [List.length_map, Array.length_toList, pa.size] at hi hj
  have up : ∀ y, y < ds.length → ∀ x, x ≤ y → Le lt (gk (fun i => ds.getD i .none) p x) (gk (fun i => ds.getD i .none) p y) := by
    intro y
    induction y with
    | zero => intro hy x hx; rw [show x = 0 from by (first | lia | omega)]; exact T.refl _
    | succ y ih =>
      intro hy x hx
      by_cases z : x = y + 1
      · rw [z]; exact T.refl _
      · exact T.trans (ih (by (first | lia | omega)) x (by (first | lia | omega))) (asc (y + 1) (by (first | lia | omega)) hy)
  have := up j hj i (by (first | lia | omega))
  have e : ∀ k (hk : k < p.toList.length), (p.toList.map fun i => ds.getD i .none)[k]'(by simpa using hk) = gk (fun i => ds.getD i .none) p k := fun k hk => by
    simp only [Array.length_toList] at hk
    simp [gk, hk]
  rw [e i (by simp [pa.size]; (first | lia | omega)), e j (by simp [pa.size]; (first | lia | omega))]
  exact this
theorem cl_sorted_core (hk : c.Ok) {v : V} {ds : List D} (hv : Vw σ v (.lst ds)) (h2 : 2 ≤ ds.length) (h64 : ds.length < 64)
    (ask : ∀ (Zv : Zone) (s' : Shared) (vs : List Value), (∀ a o, Zv a = some o → s'.heap.get? a = some o) → Rvs Zv vs ds → ∃ κ, (∀ (Q : SortKind → Shared → Prop) (E : Value → Shared → Prop), Q κ s' → wpAny (model c.prog c.w) c.A.in1.in1 (keyKind' vs.toArray) Q E s') ∧
      ∀ x y dx dy, Rv Zv x dx → Rv Zv y dy → dx ∈ ds → dy ∈ ds → ∀ C : Bool → Shared → Prop, C (D.lt dx dy) s' → wpAny (model c.prog c.w) c.A.in1.in1 (keyLt' κ x y) C (fun _ _ => False) s')
    (h : ∀ es : List D, es.Perm ds → es.Pairwise (fun a b => D.lt b a = false) → NewL K σ es) : Cl c ρ σ (.builtin "sorted") [v] K := fun Z Y s Q X us S r q => by
  refine hide fun P_ hP_ => ?_
  obtain ⟨u, rfl, ru⟩ := rvs1 r
  refine hP_ ?_
  clear hP_ P_
  refine hide fun P_ hP_ => ?_
  obtain ⟨a, vs, n, rfl, h1, rr⟩ := hv.list S ru
  refine hP_ ?_
  clear hP_ P_
  have hl := rr.length
  refine hide fun P_ hP_ => ?_
  obtain ⟨m, hns, hm⟩ := S.ns
  refine hP_ ?_
  clear hP_ P_
  have emp : ∀ a, ({ s.heap with objs := #[] } : Heap).get? a = none := fun a => Heap.get?_none_of_le (Nat.zero_le _)
  refine kat_sorted (vs := vs) (h₀ := { s.heap with objs := #[] }) (L := c.env.locals) (m := m) (news := newsOf s.heap c.env.locals) ⟨hns, fun b o e => absurd e (by rw [emp]; simp), Nat.zero_le _⟩ (newsOf_news emp) (IsL.isList h1) (by (first | lia | omega)) (by (first | lia | omega)) fun D0 e1 h' F' N' hlt => ?_
  have keep : ∀ b o, b ≠ c.env.locals → s.heap.get? b = some o → h'.get? b = some o := fun b o hb e => (N' (b, o) (.tail _ (newsOf_mem.mpr ⟨hb, e⟩))).1
  have S1 := S.keepL hk (tk := s.toks) keep F'.ns hm
  have nD : D0 ≠ c.env.locals := (N' _ (.head _)).2.1
  have hD : s.heap.get? D0 = none := by
    cases z : s.heap.get? D0 with
    | none => rfl
    | some o => exact absurd (hlt (D0, o) (newsOf_mem.mpr ⟨nD, z⟩)) (Nat.lt_irrefl _)
  refine hide fun P_ hP_ => ?_
  obtain ⟨κ, hκ, hlt2⟩ := ask Z { s with heap := h' } vs S1.g.keep rr
  refine hP_ ?_
  clear hP_ P_
  refine hκ _ _ ?_
  rw [hl]
  refine KOk.wp (n := ds.length) (c := cmpK D.lt fun i => ds.getD i .none) (fun i j C hi hj hC => ?_) (KOk.mono (fun p hp => ?_) (sort_ok TO.ltD (by (first | lia | omega))))
  · refine hide fun P_ hP_ => ?_
    obtain ⟨x, hx, rx⟩ := rr.get (getD_get hi)
    refine hP_ ?_
    clear hP_ P_
    refine hide fun P_ hP_ => ?_
    obtain ⟨y, hy, ry⟩ := rr.get (getD_get hj)
    refine hP_ ?_
    clear hP_ P_
    have ex : vs.getD i Value.none = x := by rw [List.getD_eq_getElem?_getD, hx]; rfl
    have ey : vs.getD j Value.none = y := by rw [List.getD_eq_getElem?_getD, hy]; rfl
    unfold kas_ask
    rw [ex, ey]
    exact hlt2 x y _ _ rx ry (getD_mem hi) (getD_mem hj) C hC
  · obtain ⟨pa, asc⟩ := hp
    refine KasFin.intro (g := fun o => (D0, o) :: newsOf s.heap c.env.locals) F' N' (.head fun p hp => Nat.ne_of_lt (hlt p hp)) fun h'' c' F'' N'' => ?_
    have keep2 : ∀ b o, b ≠ c.env.locals → s.heap.get? b = some o → h''.get? b = some o := fun b o hb e => (N'' (b, o) (.tail _ (newsOf_mem.mpr ⟨hb, e⟩))).1
    have S2 := S.keepL hk (tk := s.toks) keep2 F''.ns hm
    have hoD : h''.get? D0 = some (lobj (p.toList.map fun i => vs.getD i Value.none) c') := (N'' _ (.head _)).1
    have rOut := rr.pick (is := p.toList) fun i hi => List.mem_range.mp (pa.perm.mem_iff.mp hi)
    have per : (p.toList.map fun i => ds.getD i .none).Perm ds := by
      have := pa.perm.map fun i => ds.getD i .none
      rw [pick_range] at this
      exact this
    refine hide fun P_ hP_ => ?_
    obtain ⟨Z', v', σ', x, rv, kv, S3, -⟩ := S2.joinL hk (Apart.fresh S hD) hoD rOut (h _ per (asc_pairwise TO.ltD pa asc))
    refine hP_ ?_
    clear hP_ P_
    exact q Z' _ v' σ' _ x rv kv S3
end
end Mine
namespace Mine
open PySem.SeqAt Classical

section
variable {c : Cx} {Z Y : Zone} {ρ : Vars} {σ : Sto} {s : Shared} {K : V → Sto → Prop}
theorem cl_sorted_ints (hk : c.Ok) {v : V} {ns : List Int} (hv : Vw σ v (.lst (ns.map D.int))) (h2 : 2 ≤ ns.length) (h64 : ns.length < 64)
    (h : ∀ es : List D, es.Perm (ns.map D.int) → es.Pairwise (fun a b => D.lt b a = false) → NewL K σ es) : Cl c ρ σ (.builtin "sorted") [v] K := by
  refine cl_sorted_core hk hv (by simpa using h2) (by simpa using h64) (fun Zv s' vs kz r => ⟨oneType', fun Q E q => ?_, fun x y dx dy rx ry hx hy C hC => ?_⟩) h
  · have hl := r.length
    refine kas_kind (T := .type "int") (by rw [hl]; simpa using h2) (fun v hv => ?_) (by decide) (by decide) q
    refine hide fun P_ hP_ => ?_
    obtain ⟨d, hd, rv⟩ := mem_Rvs r hv
    refine hP_ ?_
    clear hP_ P_
    refine hide fun P_ hP_ => ?_
    obtain ⟨i, -, rfl⟩ := List.mem_map.mp hd
    refine hP_ ?_
    clear hP_ P_
    cases rv
    exact Looks.of_pure rfl
  · refine hide fun P_ hP_ => ?_
    obtain ⟨i, -, rfl⟩ := List.mem_map.mp hx
    refine hP_ ?_
    clear hP_ P_
    refine hide fun P_ hP_ => ?_
    obtain ⟨j, -, rfl⟩ := List.mem_map.mp hy
    refine hP_ ?_
    clear hP_ P_
    cases rx; cases ry
    rw [keyLt'_oneType]
    refine oneLt_int ?_
    simpa [D.lt] using hC
/-- lists of lists -/
theorem cl_sorted_lists (hk : c.Ok) {v : V} {ds : List D} {t : Ty} (hv : Vw σ v (.lst ds)) (hds : ∀ d ∈ ds, Has (.lst t) d) (hu : c.A.units + (t.depth + 3) < cLine) (h2 : 2 ≤ ds.length) (h64 : ds.length < 64)
    (h : ∀ es : List D, es.Perm ds → es.Pairwise (fun a b => D.lt b a = false) → NewL K σ es) : Cl c ρ σ (.builtin "sorted") [v] K := by
  refine cl_sorted_core hk hv h2 h64 (fun Zv s' vs kz r => ⟨oneType', fun Q E q => ?_, fun x y dx dy rx ry hx hy C hC => ?_⟩) h
  · have hl := r.length
    refine kas_kind (T := .type "list") (by rw [hl]; exact h2) (fun v hv => ?_) (by decide) (by decide) q
    refine hide fun P_ hP_ => ?_
    obtain ⟨d, hd, rv⟩ := mem_Rvs r hv
    refine hP_ ?_
    clear hP_ P_
    have := hds d hd
    cases rv <;> first | (simp [Has] at this; done) | skip
    rename_i e _
    exact (Looks.ld (kz _ _ e)).andThen .now
  · have h1 := hds dx hx
    have h2' := hds dy hy
    cases rx <;> first | (simp [Has] at h1; done) | skip
    rename_i a1 us1 n1 ds1 e1 r1
    cases ry <;> first | (simp [Has] at h2'; done) | skip
    rename_i a2 us2 n2 ds2 e2 r2
    rw [Has] at h1 h2'
    have l1 := r1.length
    have l2 := r2.length
    have elt : ∀ j (g1 : j < us1.toArray.size) (g2 : j < us2.toArray.size), EqAt c.A.in1.in1.in1 s' us1.toArray[j] us2.toArray[j] (decide (ds1.getD j .none = ds2.getD j .none)) ∧ (decide (ds1.getD j .none = ds2.getD j .none) = false → LtAt c.A.in1.in1.in1 s' us1.toArray[j] us2.toArray[j] (D.lt (ds1.getD j .none) (ds2.getD j .none))) := by
      intro j g1 g2
      rw [List.size_toArray] at g1 g2
      have g3 : j < ds1.length := by (first | lia | omega)
      have g4 : j < ds2.length := by (first | lia | omega)
      have q1 : ds1[j]? = some ds1[j] := List.getElem?_eq_getElem g3
      have q2 : ds2[j]? = some ds2[j] := List.getElem?_eq_getElem g4
      have := rv_eq_lt _ t (Nat.le_refl _) c.A.in1.in1.in1 Zv s' kz (by simp; (first | lia | omega)) (r1.getElem g1 g3) (r2.getElem g2 g4) (h1 _ (List.getElem_mem g3)) (h2' _ (List.getElem_mem g4))
      simpa [List.getD_eq_getElem?_getD, q1, q2] using And.intro this.1 (fun _ => this.2.1)
    rw [keyLt'_oneType, oneLt'_eq]
    simp only [if_true]
    refine wpAny_bind (wpAny_cRoomFor (by simp; (first | lia | omega)) ?_)
    have ho1 := kz _ _ e1
    have ho2 := kz _ _ e2
    have hlex : lexAt (fun j => decide (ds1.getD j .none = ds2.getD j .none)) (fun j => D.lt (ds1.getD j .none) (ds2.getD j .none)) (decide (us1.toArray.size < us2.toArray.size)) 0 (min us1.toArray.size us2.toArray.size) = D.lt (.lst ds1) (.lst ds2) := by
      rw [List.size_toArray, List.size_toArray, l1, l2, lexAt_ds (min ds1.length ds2.length) 0 ds1 ds2 (Nat.sub_zero _) (Nat.zero_le _), D.lt]
      simp
    refine wpAny_bind (wpAny_callSpecialIfBound?_slot (T := "list") ⟨_, ho1, rfl⟩ F.slot_list_lt (call_meets F.slot_list_lt ⟨_, ho1, rfl⟩ F.entry_list_lt (F.args_list_lt_2 _ _) (list_ltAt a1 a2 us1.toArray us2.toArray n1 n2 none none #[] #[] _ _)
      ⟨ho1, ho2, elt, ?_⟩))
    rw [hlex]
    exact wpAny_truthy_bool hC

theorem katlex_rest {prog : Program} {w : World} {A : Around} {Zv : Zone} {s' : Shared} {Q : Bool → Shared → Prop} (kz : ∀ a o, Zv a = some o → s'.heap.get? a = some o) {N : Nat} (hu : A.units + N < cLine) : ∀ {ts : List Ty} {us1 us2 : List Value} {ds1 ds2 : List D} (i : Nat), 0 < i → Tys.depth ts ≤ N → Rvs Zv us1 ds1 → Rvs Zv us2 ds2 → Hass ts ds1 → Hass ts ds2 → Q (Ds.lt ds1 ds2) s' → KatLex prog w A true false Q (us1.zip us2) i s'
  | [], _, _, [], [], i, hi, hN, .nil, .nil, _, _, q => by
    refine kat_nil ?_
    simpa [Ds.lt] using q
  | [], _, _, _ :: _, _, i, hi, hN, _, _, h, _, q => by simp [Hass] at h
  | [], _, _, [], _ :: _, i, hi, hN, _, _, _, h, q => by simp [Hass] at h
  | t :: ts, _, _, [], _, i, hi, hN, _, _, h, _, q => by simp [Hass] at h
  | t :: ts, _, _, _ :: _, [], i, hi, hN, _, _, _, h, q => by simp [Hass] at h
  | t :: ts, _, _, d :: ds, e :: es, i, hi, hN, .cons (v := v) (vs := vs) r1 r1', .cons (v := u) (vs := us) r2 r2', h1, h2, q => by
    rw [Hass] at h1 h2
    have hN' : max t.depth (Tys.depth ts) ≤ N := by simpa [Tys.depth] using hN
    have := rv_eq_lt _ t (Nat.le_refl _) A Zv s' kz (by (first | lia | omega)) r1 r2 h1.1 h2.1
    rw [Ds.lt] at q
    rw [List.zip_cons_cons]
    refine kat_cons (this.1 prog w _ _ ?_)
    by_cases z : d = e
    · rw [decide_eq_true z]
      rw [if_pos z] at q
      exact kat_yes (katlex_rest kz hu (i + 1) (by (first | lia | omega)) (by (first | lia | omega)) r1' r2' h1.2 h2.2 q)
    · rw [decide_eq_false z]
      rw [if_neg z] at q
      refine kat_no ?_
      rw [show (true && i == 0) = false from by simp; (first | lia | omega)]
      exact kat_one _ _ (this.2.1 prog w _ _ q)
theorem hass_len : ∀ {ts : List Ty} {ds : List D}, Hass ts ds → ds.length = ts.length
  | [], [], _ => rfl
  | [], _ :: _, h => by simp [Hass] at h
  | _ :: _, [], h => by simp [Hass] at h
  | t :: ts, d :: ds, h => by rw [Hass] at h; simp [hass_len h.2]
theorem katTups {h : Heap} {Zv : Zone} (kz : ∀ a o, Zv a = some o → h.get? a = some o) {ts : List Ty} : ∀ {vs : List Value} {ds : List D}, Rvs Zv vs ds → (∀ d ∈ ds, Has (.tup (.int :: ts)) d) → ∃ fs, A3 (KatTups h vs fs) (∀ v ∈ fs, E2 fun i t => v = .int i t) (fs.length = vs.length)
  | _, _, .nil, _ => ⟨[], .nil, by simp, rfl⟩
  | _, _, .cons (d := d) r1 r, hd => by
    refine hide fun P_ hP_ => ?_
    obtain ⟨fs, h1, h2, h3⟩ := katTups kz r fun d hd' => hd d (.tail _ hd')
    refine hP_ ?_
    clear hP_ P_
    have := hd _ (.head _)
    cases r1 <;> first | (simp [Has] at this; done) | skip
    rename_i a us n es e re
    rw [Has] at this
    cases re with
    | nil => simp [Hass] at this
    | cons r0 _ =>
      rw [Hass] at this
      cases r0 <;> first | (simp [Has] at this; done) | skip
      rename_i i t
      exact ⟨_ :: fs, .cons (kz _ _ e) rfl rfl rfl h1, fun v hv => by
        rcases List.mem_cons.mp hv with rfl | hv
        · exact ⟨i, t, rfl⟩
        · exact h2 v hv, by simp [h3]⟩
/-- tuples, an int first -/
theorem cl_sorted_tups (hk : c.Ok) {v : V} {ds : List D} {ts : List Ty} (hv : Vw σ v (.lst ds)) (hds : ∀ d ∈ ds, Has (.tup (.int :: ts)) d) (hu : c.A.units + (Tys.depth ts + 3) < cLine) (h2 : 2 ≤ ds.length) (h64 : ds.length < 64)
    (h : ∀ es : List D, es.Perm ds → es.Pairwise (fun a b => D.lt b a = false) → NewL K σ es) : Cl c ρ σ (.builtin "sorted") [v] K := by
  refine cl_sorted_core hk hv h2 h64 (fun Zv s' vs kz r => ⟨tuples' true, fun Q E q => ?_, fun x y dx dy rx ry hx hy C hC => ?_⟩) h
  · refine hide fun P_ hP_ => ?_
    obtain ⟨fs, k1, k2, k3⟩ := katTups kz r hds
    refine hP_ ?_
    clear hP_ P_
    have hl := r.length
    refine kat_kind (T := .type "int") k1 (by (first | lia | omega)) (fun v hv => ?_) (by decide) q
    refine hide fun P_ hP_ => ?_
    obtain ⟨i, t, rfl⟩ := k2 v hv
    refine hP_ ?_
    clear hP_ P_
    exact Looks.of_pure rfl
  · have h1 := hds dx hx
    have h2' := hds dy hy
    cases rx <;> first | (simp [Has] at h1; done) | skip
    rename_i a1 us1 n1 ds1 e1 r1
    cases ry <;> first | (simp [Has] at h2'; done) | skip
    rename_i a2 us2 n2 ds2 e2 r2
    rw [Has] at h1 h2'
    refine kat_lt (kz _ _ e1) rfl (kz _ _ e2) rfl ?_
    have l1 := r1.length
    have l2 := r2.length
    rw [D.lt] at hC
    cases r1 with
    | nil => simp [Hass] at h1
    | cons f1 g1 =>
      cases r2 with
      | nil => simp [Hass] at h2'
      | cons f2 g2 =>
        rw [Hass] at h1 h2'
        cases f1 <;> first | (simp [Has] at h1; done) | skip
        cases f2 <;> first | (simp [Has] at h2'; done) | skip
        rename_i vs1 ds1 ws1 es1 x1 tk1 x2 tk2
        have q1 := hass_len h1.2
        have q2 := hass_len h2'.2
        have len : decide ((Value.int x1 tk1 :: vs1).toArray.size < (Value.int x2 tk2 :: ws1).toArray.size) = false := by
          have := g1.length; have := g2.length
          simp; (first | lia | omega)
        rw [len]
        rw [Ds.lt] at hC
        show KatLex _ _ _ true false C ((Value.int x1 tk1, Value.int x2 tk2) :: vs1.zip ws1) 0 s'
        have eq := rv_eq_lt _ .int (Nat.le_refl _) c.A.in1.in1 Zv s' kz (by simp [Ty.depth]; (first | lia | omega)) (Rv.int x1 tk1) (Rv.int x2 tk2) h1.1 h2'.1
        refine kat_cons (eq.1 c.prog c.w _ _ ?_)
        by_cases z : D.int x1 = D.int x2
        · rw [decide_eq_true z]
          rw [if_pos z] at hC
          exact kat_yes (katlex_rest kz (N := Tys.depth ts) (by simp; (first | lia | omega)) 1 (by decide) (Nat.le_refl _) g1 g2 h1.2 h2'.2 hC)
        · rw [decide_eq_false z]
          rw [if_neg z] at hC
          refine kat_no ?_
          rw [show (true && (0 : Nat) == 0) = true from rfl]
          refine oneLt_int ?_
          simpa [D.lt] using hC
end
end Mine
namespace Mine
open PySem.SeqAt Classical

/-! ### spanning trees of five places -/
def InR (x : Int) : Prop := 0 ≤ x ∧ x < 5
theorem Span.conn {c : List Tie} (h : Span c) {x y : Int} (hx : InR x) (hy : InR y) : Conn c x y := (h x hx.1 hx.2).symm.trans (h y hy.1 hy.2)
theorem Span.of {c : List Tie} {p : Int} (h : ∀ x, InR x → Conn c p x) : Span c := fun x h0 h1 => (h 0 ⟨by decide, by decide⟩).symm.trans (h x ⟨h0, h1⟩)
/-- few ties leave many classes -/
theorem few : ∀ c : List Tie, ∃ (lab : Int → Int) (R : List Int), (∀ t ∈ c, lab t.n = lab t.f) ∧ (∀ x ∈ R, InR x) ∧ (R.map lab).Nodup ∧ 5 ≤ R.length + c.length
  | [] => ⟨id, [0, 1, 2, 3, 4], by simp, by simp [InR], by decide, by simp⟩
  | t :: c => by
    refine hide fun P_ hP_ => ?_
    obtain ⟨lab, R, h1, h2, h3, h4⟩ := few c
    refine hP_ ?_
    clear hP_ P_
    refine ⟨fun x => if lab x = lab t.f then lab t.n else lab x, R.filter fun r => decide (lab r ≠ lab t.f), fun u hu => ?_, fun x hx => h2 x (List.mem_filter.mp hx).1, ?_, ?_⟩
    · rcases List.mem_cons.mp hu with rfl | hu
      · by_cases e : lab u.n = lab u.f <;> simp [e]
      · simp only [h1 u hu]
    · have e : (R.filter fun r => decide (lab r ≠ lab t.f)).map (fun x => if lab x = lab t.f then lab t.n else lab x) = (R.filter fun r => decide (lab r ≠ lab t.f)).map lab := by
        apply List.map_congr_left
        intro x hx
        have := (List.mem_filter.mp hx).2
        simp only [decide_eq_true_eq] at this
        rw [if_neg this]
      rw [e]
      exact (List.Sublist.map lab List.filter_sublist).nodup h3
    · have : R.length ≤ (R.filter fun r => decide (lab r ≠ lab t.f)).length + 1 := by
        clear h4 h2
        induction R with
        | nil => simp
        | cons r R ih =>
          rw [List.map_cons, List.nodup_cons] at h3
          by_cases e : lab r = lab t.f
          · have all : R.filter (fun r => decide (lab r ≠ lab t.f)) = R := by
              rw [List.filter_eq_self]
              intro x hx
              simp only [decide_eq_true_eq]
              intro q
              exact h3.1 (by rw [e, ← q]; exact List.mem_map_of_mem hx)
            rw [List.filter_cons, if_neg (by simp [e]), all]
            simp
          · rw [List.filter_cons, if_pos (by simp [e])]
            have := ih h3.2
            simp only [List.length_cons]; (first | lia | omega)
      simp only [List.length_cons]; (first | lia | omega)
theorem Span.four {c : List Tie} (h : Span c) : 4 ≤ c.length := by
  refine hide fun P_ hP_ => ?_
  obtain ⟨lab, R, h1, h2, h3, h4⟩ := few c
  refine hP_ ?_
  clear hP_ P_
  refine Classical.byContradiction fun hc => ?_
  match R, h2, h3, h4 with
  | [], _, _, h4 => simp at h4; (first | lia | omega)
  | [_], _, _, h4 => simp at h4; (first | lia | omega)
  | a :: b :: R, h2, h3, h4 =>
    have := (h.conn (h2 a (by simp)) (h2 b (by simp))) (fun x => lab x = lab a) fun t ht => by rw [h1 t ht]
    have q : lab b = lab a := this.mp rfl
    simp [q] at h3
theorem two_sides {T : List Tie} (h : Span T) {g : Tie} (hg : g ∈ T) (hr : InR g.n) {v : Int} (hv : InR v) : Conn (less T g) v g.n ∨ Conn (less T g) v g.f := by
  refine Classical.byContradiction fun hc => ?_
  have h1 : ¬ Conn (less T g) v g.n := fun q => hc (.inl q)
  have h2 : ¬ Conn (less T g) v g.f := fun q => hc (.inr q)
  have := h.conn hv hr (fun x => Conn (less T g) v x) fun t ht => by
    by_cases e : t = g
    · rw [e]; exact ⟨fun q => absurd q h1, fun q => absurd q h2⟩
    · have ht' : t ∈ less T g := less_mem.mpr ⟨ht, e⟩
      exact ⟨fun q => q.trans (Conn.tie ht'), fun q => q.trans (Conn.tie ht').symm⟩
  exact h1 (this.mp (Conn.refl v))
/-- a tree: four different ties of ts that join the five places -/
structure IsTree (ts T : List Tie) : Prop where
  sub : ∀ t ∈ T, t ∈ ts
  nd : T.Nodup
  len : T.length = 4
  span : Span T
theorem less_nodup_len {T : List Tie} (nd : T.Nodup) {g : Tie} (hg : g ∈ T) : (less T g).length + 1 = T.length := by
  have e : less T g = T.erase g := by
    rw [nd.erase_eq_filter]
    unfold less
    apply List.filter_congr
    intro x hx
    by_cases q : x = g <;> simp [q]
  rw [e, List.length_erase_of_mem hg]
  have := List.length_pos_of_mem hg
  (first | lia | omega)
theorem IsTree.cut {ts T : List Tie} (h : IsTree ts T) {g : Tie} (hg : g ∈ T) (ok : TsOk ts) : ¬ Conn (less T g) g.n g.f := fun hc => by
  have hr := ok.rg g (h.sub g hg)
  have hs : Span (less T g) := Span.of (p := g.n) fun x hx => by
    rcases two_sides h.span hg hr.1 hx with q | q
    · exact q.symm
    · exact hc.trans q.symm
  have := hs.four
  have := less_nodup_len h.nd hg
  have := h.len
  (first | lia | omega)
theorem IsTree.swap {ts T : List Tie} (h : IsTree ts T) (ok : TsOk ts) {g e : Tie} (hg : g ∈ T) (he : e ∈ ts) (heT : e ∉ T) : IsTree ts (less T g ++ [e]) ↔ Crosses T g e := by
  have hrg := ok.rg g (h.sub g hg)
  have hre := ok.rg e he
  constructor
  · intro hU hnc
    have hc := hU.span.conn hrg.1 hrg.2 (fun x => Conn (less T g) g.n x) fun t ht => by
      rcases List.mem_append.mp ht with ht | ht
      · exact ⟨fun q => q.trans (Conn.tie ht), fun q => q.trans (Conn.tie ht).symm⟩
      · rw [List.mem_singleton.mp ht]; exact hnc
    exact h.cut hg ok (hc.mp (Conn.refl _))
  · intro hcr
    have up : ∀ {x y}, Conn (less T g) x y → Conn (less T g ++ [e]) x y := fun q => q.mono fun t ht => List.mem_append_left _ ht
    have ee : Conn (less T g ++ [e]) e.n e.f := Conn.tie (by simp)
    have link : Conn (less T g ++ [e]) g.n g.f := by
      by_cases a : Conn (less T g) g.n e.n
      · have b : ¬ Conn (less T g) g.n e.f := fun b => hcr ⟨fun _ => b, fun _ => a⟩
        rcases two_sides h.span hg hrg.1 hre.2 with q | q
        · exact absurd q.symm b
        · exact (up a).trans (ee.trans (up q))
      · have b : Conn (less T g) g.n e.f := Classical.byContradiction fun b => hcr ⟨fun q => absurd q a, fun q => absurd q b⟩
        rcases two_sides h.span hg hrg.1 hre.1 with q | q
        · exact absurd q.symm a
        · exact (up b).trans (ee.symm.trans (up q))
    refine ⟨fun t ht => ?_, ?_, ?_, Span.of (p := g.n) fun x hx => ?_⟩
    · rcases List.mem_append.mp ht with ht | ht
      · exact h.sub t (less_mem.mp ht).1
      · rw [List.mem_singleton.mp ht]; exact he
    · rw [List.nodup_append]
      refine ⟨List.filter_sublist.nodup h.nd, by simp, fun y hy z hz => ?_⟩
      rw [List.mem_singleton.mp hz]
      rintro rfl; exact heT (less_mem.mp hy).1
    · rw [List.length_append, List.length_singleton, less_nodup_len h.nd hg, h.len]
    · rcases two_sides h.span hg hrg.1 hx with q | q
      · exact up q.symm
      · exact link.trans (up q.symm)

theorem less_lt {M : List Tie} {h : Tie} (hm : h ∈ M) : (less M h).length < M.length := by
  unfold less
  have : (M.filter fun o => decide (o ≠ h)).length ≠ M.length := fun q => by
    have := (List.length_filter_eq_length_iff.mp q) h hm
    simp at this
  have := List.length_filter_le (fun o => decide (o ≠ h)) M
  (first | lia | omega)
/-- a least part of T that joins a and b -/
theorem least_part {T : List Tie} {a b : Int} (h : Conn T a b) : ∃ M : List Tie, (∀ t ∈ M, t ∈ T) ∧ Conn M a b ∧ ∀ g ∈ M, ¬ Conn (less M g) a b := by
  generalize hn : T.length = n
  induction n using Nat.strongRecOn generalizing T with
  | _ n ih =>
    by_cases hm : ∃ g ∈ T, Conn (less T g) a b
    · refine hide fun P_ hP_ => ?_
      obtain ⟨g, hg, hc⟩ := hm
      refine hP_ ?_
      clear hP_ P_
      refine hide fun P_ hP_ => ?_
      obtain ⟨M, h1, h2, h3⟩ := ih (less T g).length (by rw [← hn]; exact less_lt hg) hc rfl
      refine hP_ ?_
      clear hP_ P_
      exact ⟨M, fun t ht => (less_mem.mp (h1 t ht)).1, h2, h3⟩
    · exact ⟨T, fun t ht => ht, h, fun g hg hc => hm ⟨g, hg, hc⟩⟩

theorem cross_edge {ts T : List Tie} (h : IsTree ts T) (ok : TsOk ts) {f : Tie} (hf : f ∈ ts) (S : Int → Prop) (hS : ¬ (S f.n ↔ S f.f)) : ∃ g ∈ T, ¬ (S g.n ↔ S g.f) ∧ Crosses T g f := by
  have hrf := ok.rg f hf
  refine hide fun P_ hP_ => ?_
  obtain ⟨M, h1, h2, h3⟩ := least_part (h.span.conn hrf.1 hrf.2)
  refine hP_ ?_
  clear hP_ P_
  obtain ⟨g, hg, hgS⟩ : ∃ g ∈ M, ¬ (S g.n ↔ S g.f) := Classical.byContradiction fun hc => hS (h2 S fun t ht => Classical.byContradiction fun q => hc ⟨t, ht, q⟩)
  refine ⟨g, h1 g hg, hgS, ?_⟩
  have hno := h3 g hg
  have cut := h.cut (h1 g hg) ok
  have sub : ∀ {x y}, Conn (less M g) x y → Conn (less T g) x y := fun q => q.mono fun t ht => less_mem.mpr ⟨h1 t (less_mem.mp ht).1, (less_mem.mp ht).2⟩
  have near : ∀ {a b}, Conn M a b → ¬ Conn (less M g) a b → Conn (less M g) a g.n ∨ Conn (less M g) a g.f := fun {a b} hab hn => Classical.byContradiction fun hc => by
    refine hn ((hab (fun x => Conn (less M g) a x) fun t ht => ?_).mp (Conn.refl a))
    by_cases e : t = g
    · rw [e]; exact ⟨fun q => absurd (.inl q) hc, fun q => absurd (.inr q) hc⟩
    · have ht' : t ∈ less M g := less_mem.mpr ⟨ht, e⟩
      exact ⟨fun q => q.trans (Conn.tie ht'), fun q => q.trans (Conn.tie ht').symm⟩
  have n1 := near h2 hno
  have n2 := near h2.symm fun q => hno q.symm
  intro hiff
  rcases n1 with a | a <;> rcases n2 with b | b
  · exact hno (a.trans b.symm)
  · exact cut ((hiff.mp (sub a).symm).trans (sub b))
  · exact cut ((hiff.mpr (sub b).symm).trans (sub a))
  · exact hno (a.trans b.symm)
theorem sym_exchange {ts T T' : List Tie} (h : IsTree ts T) (h' : IsTree ts T') (ok : TsOk ts) {e : Tie} (he : e ∈ T') (heT : e ∉ T) : ∃ g ∈ T, g ∉ T' ∧ Crosses T g e ∧ Crosses T' e g := by
  have hc := h'.cut he ok
  refine hide fun P_ hP_ => ?_
  obtain ⟨g, hg, h1, h2⟩ := cross_edge h ok (h'.sub e he) (fun x => Conn (less T' e) e.n x) (fun q => hc (q.mp (Conn.refl _)))
  refine hP_ ?_
  clear hP_ P_
  refine ⟨g, hg, fun hg' => h1 ?_, h2, h1⟩
  have ht' : g ∈ less T' e := less_mem.mpr ⟨hg', fun q => heT (q ▸ hg)⟩
  exact ⟨fun q => q.trans (Conn.tie ht'), fun q => q.trans (Conn.tie ht').symm⟩
end Mine
namespace Mine
open PySem.SeqAt Classical

theorem worth_perm {a b : List Tie} (h : a.Perm b) : worth a = worth b := by
  induction h with
  | nil => rfl
  | cons x _ ih => unfold worth at *; simp [ih]
  | swap x y l => unfold worth; simp; (first | lia | omega)
  | trans _ _ h1 h2 => exact h1.trans h2
theorem worth_append (a b : List Tie) : worth (a ++ b) = worth a + worth b := by unfold worth; simp
theorem less_erase {T : List Tie} (nd : T.Nodup) (g : Tie) : less T g = T.erase g := by
  rw [nd.erase_eq_filter]
  unfold less
  apply List.filter_congr
  intro x hx
  by_cases q : x = g <;> simp [q]
theorem worth_less {T : List Tie} (nd : T.Nodup) {g : Tie} (hg : g ∈ T) : worth (less T g) = worth T - g.w := by
  have := worth_perm (List.perm_cons_erase hg)
  rw [less_erase nd]
  unfold worth at *
  simp at this
  (first | lia | omega)
theorem worth_swap {T : List Tie} (nd : T.Nodup) {g e : Tie} (hg : g ∈ T) : worth (less T g ++ [e]) = worth T - g.w + e.w := by
  rw [worth_append, worth_less nd hg]; unfold worth; simp
/-- of least worth -/
def Least (ts T : List Tie) : Prop := IsTree ts T ∧ ∀ U, IsTree ts U → worth T ≤ worth U
/-- a tree that is not the least one is no better than a tree one exchange away -/
theorem second_best {ts T U : List Tie} (hT : Least ts T) (hU : IsTree ts U) (ok : TsOk ts) {e : Tie} (he : e ∈ U) (heT : e ∉ T) : ∃ g ∈ T, Crosses T g e ∧ worth T + (e.w - g.w) ≤ worth U := by
  refine hide fun P_ hP_ => ?_
  obtain ⟨g, hg, hgU, h1, h2⟩ := sym_exchange hT.1 hU ok he heT
  refine hP_ ?_
  clear hP_ P_
  refine ⟨g, hg, h1, ?_⟩
  have := hT.2 _ ((hU.swap ok he (hT.1.sub g hg) hgU).mpr h2)
  rw [worth_swap hU.nd he] at this
  (first | lia | omega)
end Mine
namespace Mine
open PySem.SeqAt Classical
set_option maxHeartbeats 4000000
set_option pp.deepTerms false
set_option pp.proofs false
theorem w_own {prog : Program} {w : World} {r0 : Shared} {σ : Sto} {K : V → Sto → Prop} (hk : K (.d (.lst (own.map .int))) σ) : Fn (KP w) prog w r0 1 3 103 [] σ K := by
  walk_at "go"
  walk_at "m"
  refine ev_list W.ok ?_
  walk_at "m"
  exact ⟨own.map D.int, rfl, by decide, .inl hk⟩

theorem w_ties {prog : Program} {w : World} {r0 : Shared} {σ : Sto} {S0 : Addr} {ns : List Int} {K : V → Sto → Prop} (hs : Scr r0 S0 ns) (hz : ns.length ≤ 63) (hk : K (.d (.lst ((tiesOf ns).map Tie.d))) σ) : Fn (KP w) prog w r0 2 6 110 [.raw (.ref S0)] σ K := by
  walk_at "go"
  have hs : Scr c.r0 S0 ns := by rw [W.r]; exact hs
  walk_at "m"
  refine ev_slice_scr W.ok hs (by (first | lia | omega)) ?_
  walk_at "m"
  refine ⟨8, rfl, rfl, .inl ?_⟩
  walk_at "m"
  refine ev_slice (a := none) (b := none) (st' := none) (ds := []) (es := []) W.ok ?_
  walk_at "m"
  refine ev_slice (a := none) (b := none) (st' := none) (ds := []) (es := []) W.ok ?_
  walk_at "m"
  refine W.fn (w_own ?_) (Nat.le_refl _) (Nat.le_refl _)
  walk_at "m"
  refine cl_len W.ok (Vw.d _) (by simp; (first | lia | omega)) ?_
  walk_at "m"
  refine ⟨_, _, _, _, _, Vw.d _, Part.int _, .none, .none, by simp, by decide, pick_from _, .inl ?_⟩
  refine op_add_list W.ok (Vw.d _) (Vw.d _) (by simp [own]; (first | lia | omega)) (.inl ?_)
  walk_at "m"
  refine cl_len_scr W.ok hs (by (first | lia | omega)) ?_
  walk_at "m"
  rw [show (8 : Int) - Int.fmod (ns.length : Int) 2 = ((8 - ns.length % 2 : Nat) : Int) from by
    rw [show (2 : Int) = ((2 : Nat) : Int) from rfl, ← Int.ofNat_fmod]; (first | lia | omega)]
  refine ⟨_, _, _, _, _, Vw.d _, .none, Part.int _, .none, by simp, by simp [own]; (first | lia | omega), pick_upto _, .inl ?_⟩
  walk_at "m"
  have hc : (List.map D.int (List.take 8 ns) ++ List.drop (List.map D.int (List.take 8 ns)).length (List.map D.int own)).take (8 - ns.length % 2) = (cellsOf ns).map D.int := by
    unfold cellsOf; simp
  rw [hc]
  refine ev_list W.ok ?_
  walk_at "m"
  refine ⟨[], rfl, by simp, .inr fun a ha => ?_⟩
  walk_at "m"
  refine ex_forE (x := "ticket") (y := "cell") W.ok (.cons (.cons .nil)) (.loc (kof W.s (by rfl))) (.loc (kof W.s (by rfl))) (kof W.s (by rfl)) (nof W.k (by rfl)) ?_ (by rfl)
  walk_at "m"
  refine ⟨(cellsOf ns).map D.int, fun pre ρ' σ' => ∃ ps : List Int, A3 (pre = ps.map D.int) (ρ' "found" = some (.raw (.ref a))) (σ' = σ.set a ((tiesFrom 0 ps).map Tie.d)), rfl, ⟨[], rfl, by walk_at "lk", rfl⟩, ?_, ?_⟩
  · rintro pre d post ρ' σ' hd ⟨ps, rfl, e1, rfl⟩ KB hKB
    obtain ⟨v, rfl⟩ : ∃ v, d = .int v := by
      have : d ∈ (cellsOf ns).map D.int := by rw [hd]; simp
      obtain ⟨v, -, rfl⟩ := List.mem_map.mp this
      exact ⟨v, rfl⟩
    have hlen : ps.length < 8 := by
      have := congrArg List.length hd
      simp [cellsOf_length] at this; (first | lia | omega)
    simp only [List.length_map]
    have key : ∀ (ρ2 : Vars), ρ2 "found" = some (.raw (.ref a)) → ∃ ps_1 : List Int, A3 (List.map D.int ps ++ [D.int v] = List.map D.int ps_1) (ρ2 "found" = some (V.raw (Value.ref a))) ((σ.set a ((tiesFrom 0 ps).map Tie.d)).set a ((tiesFrom 0 ps).map Tie.d ++ [(tieOf ps.length v).d]) = σ.set a ((tiesFrom 0 ps_1).map Tie.d)) := fun ρ2 g => by
      refine ⟨ps ++ [v], by simp, g, ?_⟩
      rw [Sto.set_set, tiesFrom_append]
      simp
    have hti : (tieOf ps.length v).d = .tup [.int (if v.fmod 7 = 0 then v.fdiv 20 else (if ps.length < 4 then v.fmod 4 else (v.fdiv 20).fmod 4)), .int ps.length, .int (if ps.length < 4 then (ps.length : Int) else v.fmod 5), .int (if ps.length < 4 then (ps.length : Int) + 1 else (v.fmod 5 + 1 + (v.fdiv 5).fmod 4).fmod 5)] := rfl
    rw [hti] at key
    by_cases h4 : ps.length < 4
    · simp only [if_pos h4] at key
      walk_at "m"
      walk_at "br"
      walk_at "br"
      walk_at "br"
      refine ev_append W.ok (by rfl) (by rfl) ?_
      walk_at "m"
      refine ⟨a, _, rfl, Sto.set_self _ _ _, ?_⟩
      refine ev_tuple W.ok ?_
      walk_at "m"
      by_cases h7 : v.fmod 7 = 0
      · rw [if_pos h7] at key
        walk_at "br"
        refine ⟨[_, _, _, _], rfl, by simp, _, _, rfl, Sto.set_self _ _ _, by simp; exact Nat.le_trans (tiesFrom_length _ _ ▸ Nat.le_of_lt hlen) (by decide), rfl, ?_⟩
        walk_at "m"
        exact key _ (by walk_at "lk")
      · rw [if_neg h7] at key
        walk_at "br"
        refine ⟨[_, _, _, _], rfl, by simp, _, _, rfl, Sto.set_self _ _ _, by simp; exact Nat.le_trans (tiesFrom_length _ _ ▸ Nat.le_of_lt hlen) (by decide), rfl, ?_⟩
        walk_at "m"
        exact key _ (by walk_at "lk")
    · simp only [if_neg h4] at key
      walk_at "m"
      walk_at "br"
      walk_at "br"
      walk_at "br"
      refine ev_append W.ok (by rfl) (by rfl) ?_
      walk_at "m"
      refine ⟨a, _, rfl, Sto.set_self _ _ _, ?_⟩
      refine ev_tuple W.ok ?_
      walk_at "m"
      by_cases h7 : v.fmod 7 = 0
      · rw [if_pos h7] at key
        walk_at "br"
        refine ⟨[_, _, _, _], rfl, by simp, _, _, rfl, Sto.set_self _ _ _, by simp; exact Nat.le_trans (tiesFrom_length _ _ ▸ Nat.le_of_lt hlen) (by decide), rfl, ?_⟩
        walk_at "m"
        exact key _ (by walk_at "lk")
      · rw [if_neg h7] at key
        walk_at "br"
        refine ⟨[_, _, _, _], rfl, by simp, _, _, rfl, Sto.set_self _ _ _, by simp; exact Nat.le_trans (tiesFrom_length _ _ ▸ Nat.le_of_lt hlen) (by decide), rfl, ?_⟩
        walk_at "m"
        exact key _ (by walk_at "lk")
  · rintro ρ' σ' ⟨ps, hp, e1, rfl⟩
    have hp' : cellsOf ns = ps := map_int_inj hp
    walk_at "m1"
    walk_at "m1"
    refine ev_freeze W.ok ?_
    walk_at "m"
    refine ⟨a, _, rfl, Sto.set_self _ _ _, ?_⟩
    walk_at "m"
    rw [Sto.del_set σ ha, ← hp']
    exact hk
theorem w_side {prog : Program} {w : World} {r0 : Shared} {σ : Sto} {ts : List Tie} {p : Int} {K : V → Sto → Prop} (hr : ∀ t ∈ ts, (0 ≤ t.n ∧ t.n < 5) ∧ 0 ≤ t.f ∧ t.f < 5) (hz : ts.length ≤ 8) (hp : 0 ≤ p ∧ p < 5)
    (hk : ∀ met, SideOk ts p met → K (.d (.lst (met.map .int))) σ) : Fn (KP w) prog w r0 1 6 122 [.d (.lst (ts.map Tie.d)), .d (.int p)] σ K := by
  walk_at "go"
  walk_at "m1"
  refine ex_assign_swap (x := "met") (y := "at") W.ok (.loc (kof W.s (by rfl))) (.loc (kof W.s (by rfl))) ?_ (by rfl) (by unfold swappedStores Env.blockKind Env.kindOf; rw [W.s]; rfl)
  walk_at "m"
  refine ev_list W.ok ?_
  walk_at "m"
  refine ⟨[.int p], rfl, by simp, .inr fun a ha => ?_⟩
  walk_at "m"
  refine ⟨_, _, rfl, ?_⟩
  walk_at "m"
  refine ex_while (fun n ρ' σ' => E2 fun (met : List Int) (i : Nat) => A6 (n = 5 - i) (SI ts p met) (i ≤ met.length) (∀ j, j < i → ∀ t ∈ ts, (t.n = met.getD j 0 → t.f ∈ met) ∧ (t.f = met.getD j 0 → t.n ∈ met)) (ρ' "ties" = some (.d (.lst (ts.map Tie.d)))) (A3 (ρ' "met" = some (.raw (.ref a))) (ρ' "at" = some (.d (.int i))) (σ' = σ.set a (met.map .int)))) ?_ 5
    ⟨[p], 0, rfl, ⟨by simp, by simp [hp], by simp, by simp [Conn.refl]⟩, by simp, fun j hj => absurd hj (Nat.not_lt_zero _), by walk_at "lk", by walk_at "lk", by walk_at "lk", rfl⟩
  rintro n ρ' σ' ⟨met, i, hn, si, hi, hcl, e1, e2, e3, rfl⟩ KB hKB
  have h5 := nodup_five si.nd si.rg
  walk_at "m"
  refine cl_len W.ok (Vw.p (Sto.set_self _ _ _)) (by simp; (first | lia | omega)) ?_
  walk_at "m"
  by_cases h : i < met.length
  · refine ite_yes (by rw [List.length_map]; (first | lia | omega)) ?_
    generalize hx : met.getD i 0 = x
    have hxm : x ∈ met := by rw [← hx]; simp [h]
    walk_at "m"
    refine ex_for (x := "tie") W.ok (.loc (kof W.s (by rfl))) ?_ (fun _ => rfl)
    walk_at "m"
    refine ⟨ts.map Tie.d, fun pre ρ2 σ2 => ∃ us : List Tie, A5 (pre = us.map Tie.d) (ρ2 "ties" = some (.d (.lst (ts.map Tie.d)))) (ρ2 "met" = some (.raw (.ref a))) (ρ2 "at" = some (.d (.int i))) (σ2 = σ.set a ((us.foldl (tieStep x) met).map .int)), rfl, ⟨[], rfl, by walk_at "lk", by walk_at "lk", by walk_at "lk", rfl⟩, ?_, ?_⟩
    · rintro pre d post ρ2 σ2 hd ⟨us, rfl, g1, g2, g3, rfl⟩ KB hKB
      obtain ⟨t, vs, rfl, hts⟩ := map_split tie_inj hd
      generalize hm0 : us.foldl (tieStep x) met = m0
      have si0 : SI ts p m0 := hm0 ▸ SI.fold hr (fun t ht => by rw [hts]; exact List.mem_append_left _ ht) si hxm
      have ext0 : ∃ e, m0 = met ++ e := hm0 ▸ fold_ext x us met
      have l0 := nodup_five si0.nd si0.rg
      walk_at "m1"
      refine ex_forP (xs := ["near", "far"]) W.ok (.cons (.cons .nil)) (fun y hy => .loc (kof W.s ?_)) ?_ (fun _ => rfl)
      · rcases List.mem_cons.mp hy with rfl | hy
        · rfl
        · rw [List.mem_singleton.mp hy]; rfl
      refine ev_list W.ok ?_
      walk_at "m1"
      refine ev_tslice2 W.ok ?_
      walk_at "m"
      refine ⟨rfl, _, _, _, _, rfl, ?_⟩
      walk_at "m1"
      refine ev_tsliceR W.ok ?_
      walk_at "m"
      refine ev_neg W.ok ?_
      walk_at "m"
      refine ⟨_, rfl, rfl, rfl, _, _, _, _, rfl, ?_⟩
      walk_at "m"
      refine ⟨[.tup [.int t.n, .int t.f], .tup [.int t.f, .int t.n]], rfl, by simp, .inl ?_⟩
      refine ⟨[[.int t.n, .int t.f], [.int t.f, .int t.n]], fun pre ρ3 σ3 => ∃ m : List Int, A5 (Two x t m0 pre m) (ρ3 "ties" = some (.d (.lst (ts.map Tie.d)))) (ρ3 "met" = some (.raw (.ref a))) (ρ3 "at" = some (.d (.int i))) (σ3 = σ.set a (m.map .int)), rfl, by simp, ⟨m0, .inl ⟨rfl, rfl⟩, by walk_at "lk", by walk_at "lk", by walk_at "lk", rfl⟩, ?_, ?_⟩
      · rintro pre d post ρ3 σ3 hd ⟨m, two, k1, k2, k3, rfl⟩ KB hKB
        obtain ⟨e, f, rfl, two'⟩ := two.step hd
        obtain ⟨⟨e1', he1⟩, hl1⟩ := two.ext
        obtain ⟨e0, he0⟩ := ext0
        have hix : (m.map D.int).getD i .none = .int x := by
          rw [getD_map_int (by rw [he1, he0]; simp; (first | lia | omega)), he1, he0, List.append_assoc, krep_front h, hx]
        simp only [Vars.setAll, List.map_cons, List.map_nil]
        walk_at "m"
        refine op_itemN (Vw.p (Sto.set_self _ _ _)) (by rw [he1, he0]; simp; (first | lia | omega)) (by simp; (first | lia | omega)) ?_ (fun _ _ => rfl)
        rw [hix]
        walk_at "m"
        by_cases he : e = x
        · refine ite_yes he ?_
          walk_at "m"
          refine op_notin_list (Vw.d _) (Vw.p (Sto.set_self _ _ _)) (has_int f) has_ints (by have := W.u; simp [Ty.depth]; (first | lia | omega)) ?_
          walk_at "m"
          by_cases hf : f ∈ m
          · rw [decide_eq_true ((mem_map' int_inj).mpr hf)]
            walk_at "m"
            refine ⟨m, ?_, by walk_at "lk", by walk_at "lk", by walk_at "lk", rfl⟩
            unfold pairStep at two'
            rw [if_neg (fun q => q.2 hf)] at two'
            exact two'
          · rw [decide_eq_false (fun q => hf ((mem_map' int_inj).mp q))]
            walk_at "m"
            refine ev_append W.ok (by rfl) (by rfl) ?_
            walk_at "m"
            refine ⟨a, _, rfl, Sto.set_self _ _ _, ?_⟩
            walk_at "m"
            refine ⟨_, _, rfl, Sto.set_self _ _ _, by simp; (first | lia | omega), rfl, ?_⟩
            walk_at "m"
            refine ⟨m ++ [f], ?_, by walk_at "lk", by walk_at "lk", by walk_at "lk", by rw [Sto.set_set]; simp⟩
            unfold pairStep at two'
            rw [if_pos ⟨he, hf⟩] at two'
            exact two'
        · refine ite_no he ?_
          walk_at "m"
          refine ⟨m, ?_, by walk_at "lk", by walk_at "lk", by walk_at "lk", rfl⟩
          unfold pairStep at two'
          rw [if_neg (fun q => he q.1)] at two'
          exact two'
      · rintro ρ3 σ3 ⟨m, two, k1, k2, k3, rfl⟩
        walk_at "m"
        refine ⟨us ++ [t], by simp, by walk_at "lk", by walk_at "lk", by walk_at "lk", ?_⟩
        rw [two.done, List.foldl_append, hm0]
        rfl
    · rintro ρ2 σ2 ⟨us, hu, g1, g2, g3, rfl⟩
      have hu' := map_inj' tie_inj hu
      subst hu'
      have si2 : SI ts p (ts.foldl (tieStep x) met) := SI.fold hr (fun t ht => ht) si hxm
      obtain ⟨e, he⟩ := fold_ext x ts met
      walk_at "m"
      refine ⟨4 - i, by (first | lia | omega), ts.foldl (tieStep x) met, i + 1, by (first | lia | omega), si2, by rw [he]; simp; (first | lia | omega), ?_, by walk_at "lk", by walk_at "lk", ?_, rfl⟩
      · intro j hj t ht
        by_cases hji : j = i
        · subst hji
          have q : (ts.foldl (tieStep x) met).getD j 0 = x := by rw [he, krep_front h, hx]
          rw [q]
          exact fold_closed t ht
        · have hj' : j < i := by (first | lia | omega)
          have q : (ts.foldl (tieStep x) met).getD j 0 = met.getD j 0 := by rw [he, krep_front (by (first | lia | omega))]
          rw [q, he]
          exact ⟨fun z => List.mem_append_left _ ((hcl j hj' t ht).1 z), fun z => List.mem_append_left _ ((hcl j hj' t ht).2 z)⟩
      · rw [Vars.set_self]; simp
  · refine ite_no (by rw [List.length_map]; (first | lia | omega)) ?_
    walk_at "m1"
    walk_at "m1"
    refine ev_freeze W.ok ?_
    walk_at "m"
    refine ⟨a, _, rfl, Sto.set_self _ _ _, ?_⟩
    walk_at "m"
    rw [Sto.del_set σ ha]
    refine hk met (si.side fun y hy t ht => ?_)
    obtain ⟨j, hj, rfl⟩ := List.getElem_of_mem hy
    have q : met.getD j 0 = met[j] := by simp [hj]
    rw [← q]
    exact hcl j (by (first | lia | omega)) t ht
theorem w_worth {prog : Program} {w : World} {r0 : Shared} {σ : Sto} {ts : List Tie} {K : V → Sto → Prop} (hz : ts.length ≤ 8) (hk : K (.d (.int (worth ts))) σ) : Fn (KP w) prog w r0 1 6 137 [.d (gl ts)] σ K := by
  walk_at "go"
  walk_at "m"
  walk_at "c0"
  refine comp_fm ts Tie.d (fun t => .int t.w) (fun _ => true) ((ts.map Tie.w).map D.int) (by rw [filter_tt, List.map_map]; rfl) (by lia) (fun C t ht ok => ?_) (.inl ?_)
  · walk_at "kid"
    walk_at "m"
    exact ⟨rfl, rfl, rfl⟩
  walk_at "m1"
  refine cl_sum W.ok (Vw.d _) ?_
  exact hk

theorem w_choices {prog : Program} {w : World} {r0 : Shared} {σ : Sto} {ts : List Tie} {m : Nat} {K : V → Sto → Prop} (hz : ts.length ≤ 8) (hk : K (.d (.lst ((choices m ts).map gl))) σ) : Fn (KP w) prog w r0 1 6 127 [.d (gl ts), .d (.int m)] σ K := by
  walk_at "go"
  walk_at "m"
  refine ev_list W.ok ?_
  walk_at "m"
  refine ev_list W.ok ?_
  walk_at "m"
  refine ⟨[], rfl, by simp, .inl ?_⟩
  walk_at "m"
  refine ⟨[gl []], rfl, by simp, .inl ?_⟩
  walk_at "m"
  refine ex_for (x := "one") W.ok (.cell how (kof W.s (by rfl)) (cof hcs (by rfl))) ?_ (fun _ => rfl)
  walk_at "m"
  have hb : ∀ us vs : List Tie, ts = us ++ vs → (us.foldl (choiceStep m) [[]]).length ≤ 256 ∧ ∀ c ∈ us.foldl (choiceStep m) [[]], c.length ≤ 8 := fun us vs e => by
    have hu : us.length ≤ 8 := by have := congrArg List.length e; simp at this; (first | lia | omega)
    have h1 := choiceFold_len m us [[]]
    have h2 : 2 ^ us.length ≤ 2 ^ 8 := Nat.pow_le_pow_right (by decide) hu
    refine ⟨by simp at h1; (first | lia | omega), fun c hc => ?_⟩
    have := choiceFold_mem m us [[]] 0 (fun c hc => by simp at hc; simp [hc]) c hc
    (first | lia | omega)
  refine ⟨ts.map Tie.d, fun pre ρ' σ' => ∃ us : List Tie, A4 (pre = us.map Tie.d) (σ' = σ) (ρ' "found" = some (.d (.lst ((us.foldl (choiceStep m) [[]]).map gl)))) (ρ' "many" = some (.d (.int m))), rfl, ⟨[], rfl, rfl, by walk_at "lk", by walk_at "lk"⟩, ?_, ?_⟩
  · rintro pre d post ρ' σ' hd ⟨us, rfl, rfl, e1, e2⟩ KB hKB
    obtain ⟨t, vs, rfl, hts⟩ := map_split tie_inj hd
    generalize hF : us.foldl (choiceStep m) [[]] = F at e1
    have hF' := hb us (t :: vs) hts
    rw [hF] at hF'
    walk_at "m"
    obtain ⟨a1, h1⟩ := Option.isSome_iff_exists.mp (cof hcs (x := Str.ofString "one") (by rfl))
    obtain ⟨a2, h2⟩ := Option.isSome_iff_exists.mp (cof hcs (x := Str.ofString "many") (by rfl))
    refine ev_comp W.ok (clos2 (x := Str.ofString "many") (y := Str.ofString "one") (a := a2) (b := a1) (by decide) h2 h1 (by simp [closureFor, cellOf_eq h1, cellOf_eq h2]) (by decide) (by decide) (by rw [kof W.s (by rfl)]; decide) (by rw [kof W.s (by rfl)]; decide) (by decide) (by rfl) (by decide)) (by rfl) ?_ (fun _ => rfl)
    walk_at "m"
    refine comp_fm F gl (fun c => gl (c ++ [t])) (fun c => decide (c.length < m)) (((F.filter fun c => decide (c.length < m)).map (· ++ [t])).map gl) (by rw [List.map_map]; rfl) (by lia) (fun C f hf ok => ?_) (.inl ?_)
    · have hf8 := hF'.2 f hf
      walk_at "kid"
      walk_at "m"
      refine cl_len W.ok (ds := f.map Tie.d) (Vw.d _) (by simp; (first | lia | omega)) ?_
      walk_at "m"
      by_cases hlt : f.length < m
      · rw [List.length_map, decide_eq_true (by (first | lia | omega))]
        walk_at "m"
        refine ev_list W.ok ?_
        walk_at "m"
        refine ⟨[t.d], rfl, by simp, .inl ?_⟩
        refine op_add_list (ds := f.map Tie.d) (es := [t.d]) W.ok (Vw.d _) (Vw.d _) (by simp; (first | lia | omega)) (.inl ?_)
        exact ⟨decide_eq_true hlt, by simp [gl], rfl⟩
      · rw [List.length_map, decide_eq_false (by (first | lia | omega))]
        walk_at "m"
        exact ⟨decide_eq_false hlt, rfl⟩
    · dsimp only
      have hl2 := List.length_filter_le (fun c : List Tie => decide (c.length < m)) F
      refine op_add_list (ds := F.map gl) W.ok (Vw.d _) (Vw.d _) (by simp; (first | lia | omega)) (.inl ?_)
      walk_at "m"
      refine ⟨us ++ [t], by simp, rfl, ?_, by walk_at "lk"⟩
      rw [Vars.set_self, List.foldl_append, hF]
      simp [choiceStep]
  · rintro ρ' σ' ⟨us, hu, rfl, e1, e2⟩
    have := map_inj' tie_inj hu
    subst this
    generalize hF : ts.foldl (choiceStep m) [[]] = F at e1
    have hF' := hb ts [] (by simp)
    rw [hF] at hF'
    obtain ⟨a2, h2⟩ := Option.isSome_iff_exists.mp (cof hcs (x := Str.ofString "many") (by rfl))
    walk_at "m"
    refine ev_comp W.ok (clos1 (x := Str.ofString "many") (a := a2) h2 (by simp [closureFor, cellOf_eq h2]) (by decide) (by rw [kof W.s (by rfl)]; decide) (by decide) (by rfl) (by decide)) (by rfl) ?_ (fun _ => rfl)
    walk_at "m"
    refine comp_fm F gl gl (fun c => decide (c.length = m)) _ rfl (by lia) (fun C f hf ok => ?_) (.inl ?_)
    · have hf8 := hF'.2 f hf
      walk_at "kid"
      walk_at "m"
      refine cl_len W.ok (ds := f.map Tie.d) (Vw.d _) (by simp; (first | lia | omega)) ?_
      walk_at "m"
      by_cases hlt : f.length = m
      · rw [List.length_map, decide_eq_true (by (first | lia | omega))]
        walk_at "m"
        exact ⟨decide_eq_true hlt, rfl, rfl⟩
      · rw [List.length_map, decide_eq_false (by (first | lia | omega))]
        walk_at "m"
        exact ⟨decide_eq_false hlt, rfl⟩
    · walk_at "m"
      unfold choices at hk
      rw [hF] at hk
      exact hk
theorem w_trees {prog : Program} {w : World} {r0 : Shared} {σ : Sto} {ts : List Tie} {K : V → Sto → Prop} (hr : ∀ t ∈ ts, (0 ≤ t.n ∧ t.n < 5) ∧ 0 ≤ t.f ∧ t.f < 5) (hz : ts.length ≤ 8) (hk : K (.d (.lst ((trees ts).map gl))) σ) : Fn (KP w) prog w r0 2 9 132 [.d (gl ts)] σ K := by
  walk_at "go"
  walk_at "m"
  walk_at "c0"
  refine W.fn (w_choices (ts := ts) (m := 4) hz ?_) (Nat.le_refl _) (Nat.le_refl _)
  refine comp_fm (choices 4 ts) gl gl (fun c => decide (Span c)) _ rfl (by have := choices_len 4 ts hz; lia) (fun C f hf ok => ?_) (.inl ?_)
  · have hm := choices_sub hf
    walk_at "kid"
    walk_at "m"
    refine W.fn (w_side (ts := f) (p := 0) (fun t ht => hr t (hm.1 t ht)) (by (first | lia | omega)) (by decide) fun met hmet => ?_) (Nat.le_refl _) (Nat.le_refl _)
    walk_at "m"
    refine cl_len W.ok (Vw.d _) (by have := nodup_five hmet.nd hmet.rg; simp; (first | lia | omega)) ?_
    walk_at "m"
    by_cases hs : Span f
    · rw [List.length_map, decide_eq_true (by rw [hmet.span.mpr hs]; rfl)]
      walk_at "m"
      exact ⟨decide_eq_true hs, rfl, rfl⟩
    · rw [List.length_map, decide_eq_false (fun q => hs (hmet.span.mp (by (first | lia | omega))))]
      walk_at "m"
      exact ⟨decide_eq_false hs, rfl⟩
  · walk_at "m"
    exact hk

theorem w_exch {prog : Program} {w : World} {r0 : Shared} {σ : Sto} {ts T : List Tie} {K : V → Sto → Prop} (hr : ∀ t ∈ T, (0 ≤ t.n ∧ t.n < 5) ∧ 0 ≤ t.f ∧ t.f < 5) (hz : ts.length ≤ 8) (hT : T.length ≤ 8) (hk : K (.d (.lst ((exch ts T).map exD))) σ) : Fn (KP w) prog w r0 2 9 142 [.d (gl ts), .d (gl T)] σ K := by
  walk_at "go"
  walk_at "m"
  refine ev_list W.ok ?_
  walk_at "m"
  refine ⟨[], rfl, by simp, .inr fun a ha => ?_⟩
  walk_at "m"
  refine ex_for (x := "tie") W.ok (.loc (kof W.s (by rfl))) ?_ (fun _ => rfl)
  walk_at "m"
  refine ⟨ts.map Tie.d, fun pre ρ' σ' => ∃ us : List Tie, A4 (pre = us.map Tie.d) (ρ' "tree" = some (.d (gl T))) (ρ' "found" = some (.raw (.ref a))) (σ' = σ.set a ((exch us T).map exD)), rfl, ⟨[], rfl, by walk_at "lk", by walk_at "lk", rfl⟩, ?_, ?_⟩
  · rintro pre d post ρ' σ' hd ⟨us, rfl, e1, e2, rfl⟩ KB hKB
    obtain ⟨t, vs, rfl, hts⟩ := map_split tie_inj hd
    have hlen : (exch us T).length ≤ 64 := by
      have h1 := exch_len T us
      have h2 : us.length ≤ 8 := by have := congrArg List.length hts; simp at this; (first | lia | omega)
      have h3 : us.length * T.length ≤ 8 * 8 := Nat.mul_le_mul h2 hT
      (first | lia | omega)
    walk_at "m"
    refine op_in_list (ds := T.map Tie.d) (t := tyT) (Vw.d _) (Vw.d _) (has_tie t) has_ties (by have := W.u; rw [depT]; (first | lia | omega)) ?_
    walk_at "m"
    by_cases hin : t ∈ T
    · rw [decide_eq_true ((mem_map' tie_inj).mpr hin)]
      walk_at "m"
      refine ⟨us ++ [t], by simp, by walk_at "lk", by walk_at "lk", ?_⟩
      congr 1
      unfold exch
      simp [hin]
    · rw [decide_eq_false (fun q => hin ((mem_map' tie_inj).mp q))]
      walk_at "m"
      refine ex_for (x := "gone") W.ok (.cell how (kof W.s (by rfl)) (cof hcs (by rfl))) ?_ (fun _ => rfl)
      walk_at "m"
      refine ⟨T.map Tie.d, fun pre ρ2 σ2 => ∃ gs : List Tie, A5 (pre = gs.map Tie.d) (ρ2 "tree" = some (.d (gl T))) (ρ2 "found" = some (.raw (.ref a))) (ρ2 "tie" = some (.d t.d)) (σ2 = σ.set a ((exch us T ++ exOf T t gs).map exD)), rfl, ⟨[], rfl, by walk_at "lk", by walk_at "lk", by walk_at "lk", by simp [exOf]⟩, ?_, ?_⟩
      · rintro pre d post ρ2 σ2 hd2 ⟨gs, rfl, k1, k2, k3, rfl⟩ KB hKB
        obtain ⟨g, hs, rfl, hgs⟩ := map_split tie_inj hd2
        have hg : g ∈ T := by rw [hgs]; simp
        obtain ⟨a1, h1⟩ := Option.isSome_iff_exists.mp (cof hcs (x := Str.ofString "gone") (by rfl))
        have hl2 : (exOf T t gs).length ≤ 8 := by
          have h4 := exOf_len T t gs
          have := congrArg List.length hgs; simp at this; (first | lia | omega)
        walk_at "m"
        refine ev_comp W.ok (clos1 (x := Str.ofString "gone") (a := a1) h1 (by simp [closureFor, cellOf_eq h1]) (by decide) (by rw [kof W.s (by rfl)]; decide) (by decide) (by rfl) (by decide)) (by rfl) ?_ (fun _ => rfl)
        walk_at "m"
        refine comp_fm T Tie.d Tie.d (fun o => decide (o ≠ g)) ((less T g).map Tie.d) rfl (by lia) (fun C o ho ok => ?_) (.inl ?_)
        · walk_at "kid"
          walk_at "m"
          refine op_cmp_ne (Vw.d _) (Vw.d _) (has_tie o) (has_tie g) (by have := W.u; rw [depT]; (first | lia | omega)) ?_
          walk_at "m"
          by_cases hog : o = g
          · rw [decide_eq_true (congrArg Tie.d hog)]
            walk_at "m"
            exact ⟨decide_eq_false (fun q => q hog), rfl⟩
          · rw [decide_eq_false (fun q => hog (Tie.d_inj q))]
            walk_at "m"
            exact ⟨decide_eq_true hog, rfl, rfl⟩
        · walk_at "m1"
          walk_at "m"
          refine W.fn (w_side (ts := less T g) (p := g.n) (fun t ht => hr t (less_mem.mp ht).1) (by have := less_len T g; (first | lia | omega)) (hr g hg).1 fun met hmet => ?_) (Nat.le_refl _) (Nat.le_refl _)
          walk_at "m"
          refine op_in_list (t := .int) (Vw.d _) (Vw.d _) (has_int _) has_ints (by have := W.u; simp [Ty.depth]; (first | lia | omega)) ?_
          walk_at "m"
          refine op_in_list (t := .int) (Vw.d _) (Vw.d _) (has_int _) has_ints (by have := W.u; simp [Ty.depth]; (first | lia | omega)) ?_
          refine op_ne_bool ?_
          walk_at "m"
          have hb : (!(decide (D.int t.n ∈ met.map D.int) == decide (D.int t.f ∈ met.map D.int))) = decide (Crosses T g t) := by
            have q1 : (D.int t.n ∈ met.map D.int) ↔ Conn (less T g) g.n t.n := (mem_map' int_inj).trans (hmet.iff _)
            have q2 : (D.int t.f ∈ met.map D.int) ↔ Conn (less T g) g.n t.f := (mem_map' int_inj).trans (hmet.iff _)
            unfold Crosses
            rw [← q1, ← q2]
            by_cases c1 : D.int t.n ∈ met.map D.int <;> by_cases c2 : D.int t.f ∈ met.map D.int <;> simp only [c1, c2, decide_true, decide_false] <;> decide
          rw [hb]
          by_cases hcr : Crosses T g t
          · rw [decide_eq_true hcr]
            walk_at "m"
            refine ev_append W.ok (by rfl) (by rfl) ?_
            walk_at "m"
            refine ⟨a, _, rfl, Sto.set_self _ _ _, ?_⟩
            refine ev_tuple W.ok ?_
            walk_at "m"
            refine ⟨[.int (t.w - g.w), t.d, g.d], rfl, by simp, _, _, rfl, Sto.set_self _ _ _, by simp; (first | lia | omega), rfl, ?_⟩
            walk_at "m"
            refine ⟨gs ++ [g], by simp, by walk_at "lk", by walk_at "lk", by walk_at "lk", ?_⟩
            rw [Sto.set_set]
            congr 1
            simp [exOf, hcr, exD]
          · rw [decide_eq_false hcr]
            walk_at "m"
            refine ⟨gs ++ [g], by simp, by walk_at "lk", by walk_at "lk", by walk_at "lk", ?_⟩
            congr 1
            simp [exOf, hcr]
      · rintro ρ2 σ2 ⟨gs, hgs, k1, k2, k3, rfl⟩
        have := map_inj' tie_inj hgs
        subst this
        walk_at "m"
        refine ⟨us ++ [t], by simp, by walk_at "lk", by walk_at "lk", ?_⟩
        congr 1
        simp [exch, hin]
  · rintro ρ' σ' ⟨us, hu, e1, e2, rfl⟩
    have := map_inj' tie_inj hu
    subst this
    walk_at "m1"
    walk_at "m1"
    refine ev_freeze W.ok ?_
    walk_at "m"
    refine ⟨a, _, rfl, Sto.set_self _ _ _, ?_⟩
    walk_at "m"
    rw [Sto.del_set σ ha]
    exact hk
theorem w_grown {prog : Program} {w : World} {r0 : Shared} {σ : Sto} {ts : List Tie} {b : Int} {K : V → Sto → Prop} (ok : TsOk ts) (hz : ts.length ≤ 8) (hb : 0 ≤ b ∧ b < 5) (hk : ∀ T r, GR ts b [] T r [] → K (.d (gl T)) σ) : Fn (KP w) prog w r0 4 13 115 [.d (gl ts), .d (.int b)] σ K := by
  walk_at "go"
  walk_at "m1"
  refine ex_assign_tups (xs := ["heap", "tree", "reached", "fresh"]) W.ok (.cons (.cons (.cons (.cons .nil)))) (fun y hy => ?_) ?_ (by rfl) (by rfl)
  · simp only [List.mem_cons, List.not_mem_nil, or_false] at hy
    rcases hy with rfl | rfl | rfl | rfl
    · exact .loc (kof W.s (by rfl))
    · exact .loc (kof W.s (by rfl))
    · exact .cell how (kof W.s (by rfl)) (cof hcs (by rfl))
    · exact .loc (kof W.s (by rfl))
  walk_at "m"
  refine ev_list W.ok ?_
  walk_at "m"
  refine ⟨[], rfl, by simp, .inr fun ah ha1 => ?_⟩
  walk_at "m"
  refine ev_list W.ok ?_
  walk_at "m"
  refine ⟨[], rfl, by simp, .inr fun at1 ha2 => ?_⟩
  walk_at "m"
  refine ev_list W.ok ?_
  walk_at "m"
  refine ⟨[], rfl, by simp, .inr fun ar ha3 => ?_⟩
  walk_at "m"
  refine ev_list W.ok ?_
  walk_at "m"
  refine ⟨[.int b], rfl, by simp, .inl ?_⟩
  walk_at "m"
  have n1 : at1 ≠ ah := by rintro rfl; rw [Sto.set_self] at ha2; cases ha2
  have n3 : ar ≠ at1 := by rintro rfl; rw [Sto.set_self] at ha3; cases ha3
  have n2 : ar ≠ ah := by rintro rfl; rw [Sto.set_ne _ _ (Ne.symm n1), Sto.set_self] at ha3; cases ha3
  have z2 : σ at1 = none := by rw [Sto.set_ne _ _ n1] at ha2; exact ha2
  have z3 : σ ar = none := by rw [Sto.set_ne _ _ n3, Sto.set_ne _ _ n2] at ha3; exact ha3
  refine ⟨rfl, by simp, ?_⟩
  simp only [Vars.setAll]
  walk_at "m"
  refine ex_while (fun n ρ' σ' => E4 fun h T r f => A6 (n = 10 * (5 - r.length) + h.length) (GR ts b h T r f) (ρ' "ties" = some (.d (gl ts))) (ρ' "heap" = some (.raw (.ref ah))) (ρ' "tree" = some (.raw (.ref at1))) (A3 (ρ' "reached" = some (.raw (.ref ar))) (ρ' "fresh" = some (.d (.lst (f.map .int)))) (σ' = S3 σ ah at1 ar h T r))) ?_ 50
    ⟨[], [], [], [b], by simp, .init, by walk_at "lk", by walk_at "lk", by walk_at "lk", by walk_at "lk", by walk_at "lk", rfl⟩
  rintro n ρ' σ' ⟨h, T, r, f, hn, gr, e1, e2, e3, e4, e5, rfl⟩ KB hKB
  have gi := gr.inv ok hb
  have hrf : r.length + f.length ≤ 5 := by have := nodup_five gi.nd gi.rg; simpa using this
  have hTl : T.length ≤ 4 := by have := gi.len; simp at this; (first | lia | omega)
  have hhl : h.length ≤ 40 := by
    have h1 := gi.hl
    have h2 : ts.length * r.length ≤ 8 * 5 := Nat.mul_le_mul hz (by (first | lia | omega))
    (first | lia | omega)
  refine tst_mono (K := fun b0 σ1 => σ1 = S3 σ ah at1 ar h T r ∧ b0 = decide (f ≠ [] ∨ h ≠ [])) ?_ ?_
  · walk_at "m"
    refine ev_list W.ok ?_
    walk_at "m"
    refine ⟨[], rfl, by simp, .inl ?_⟩
    walk_at "m"
    refine op_cmp_ne (t := .lst .int) (Vw.d _) (Vw.d _) has_lint (has_lst (by simp)) (by have := W.u; simp [Ty.depth]; (first | lia | omega)) ?_
    by_cases hf : f = []
    · rw [hf]
      rw [decide_eq_true (show D.lst (List.map D.int []) = D.lst [] from rfl)]
      walk_at "m"
      refine ev_list W.ok ?_
      walk_at "m"
      refine ⟨[], rfl, by simp, .inl ?_⟩
      walk_at "m"
      refine op_cmp_ne (t := .lst tyT) (Vw.p (S3.ga n1 n2)) (Vw.d _) (has_lst (hd_ties gi.el)) (has_lst (by simp)) (by have := W.u; simp [Ty.depth, depT]; (first | lia | omega)) ?_
      by_cases hh : h = []
      · rw [hh]
        rw [decide_eq_true rfl]
        walk_at "m"
        exact ⟨rfl, by simp⟩
      · rw [decide_eq_false (fun q => hh (by injection q))]
        walk_at "m"
        exact ⟨rfl, by simp [hh]⟩
    · rw [decide_eq_false (fun q => hf (by injection q with q; exact List.map_eq_nil_iff.mp q))]
      walk_at "m"
      exact ⟨rfl, by simp [hf]⟩
  · rintro b0 σ1 ⟨rfl, rfl⟩
    by_cases hgo : f ≠ [] ∨ h ≠ []
    · rw [decide_eq_true hgo]
      walk_at "m"
      refine ex_for (x := "place") W.ok (.loc (kof W.s (by rfl))) ?_ (fun _ => rfl)
      walk_at "m"
      refine ⟨f.map D.int, fun pre ρ2 σ2 => ∃ ps : List Int, A6 (pre = ps.map D.int) (ρ2 "ties" = some (.d (gl ts))) (ρ2 "heap" = some (.raw (.ref ah))) (ρ2 "tree" = some (.raw (.ref at1))) (ρ2 "reached" = some (.raw (.ref ar))) (σ2 = S3 σ ah at1 ar (visitAll ts ps r h).2 T (r ++ ps)), rfl, ⟨[], rfl, by walk_at "lk", by walk_at "lk", by walk_at "lk", by walk_at "lk", by simp [visitAll]⟩, ?_, ?_⟩
      · rintro pre d post ρ2 σ2 hd ⟨ps, rfl, k1, k2, k3, k4, rfl⟩ KB hKB
        obtain ⟨p, qs, rfl, hps⟩ := map_split int_inj hd
        obtain ⟨v1, v2, v3, v4, v5⟩ := visit_pre gi.heap gi.el hz hrf hhl hps
        have vap := visitAll_append ts ps p r h
        rw [v1] at vap
        generalize hH : (visitAll ts ps r h).2 = H at v2 v3 v4 vap ⊢
        walk_at "m"
        refine ev_append W.ok (by rfl) (by rfl) ?_
        walk_at "m"
        refine ⟨ar, _, rfl, S3.gc, ?_⟩
        walk_at "m"
        refine ⟨_, _, rfl, S3.gc, by simp; (first | lia | omega), rfl, ?_⟩
        walk_at "m"
        rw [show List.map D.int (r ++ ps) ++ [D.int p] = ((r ++ ps) ++ [p]).map D.int from by simp, S3.setC]
        refine ex_for (x := "tie") W.ok (.loc (kof W.s (by rfl))) ?_ (fun _ => rfl)
        walk_at "m"
        have v3' : ∀ d ∈ H, ∃ t ∈ ts, d = t.d ∧ (t.n ∈ r ++ ps ++ [p] ∨ t.f ∈ r ++ ps ++ [p]) := fun d hd => by
          obtain ⟨t, h1, h2, h3⟩ := v3 d hd
          exact ⟨t, h1, h2, h3.imp (List.mem_append_left _) (List.mem_append_left _)⟩
        refine ⟨ts.map Tie.d, fun pre ρ3 σ3 => ∃ us : List Tie, A7 (pre = us.map Tie.d) (ρ3 "ties" = some (.d (gl ts))) (ρ3 "heap" = some (.raw (.ref ah))) (ρ3 "tree" = some (.raw (.ref at1))) (ρ3 "reached" = some (.raw (.ref ar))) (ρ3 "place" = some (.d (.int p))) (σ3 = S3 σ ah at1 ar (pushAll us (r ++ ps ++ [p]) p H) T (r ++ ps ++ [p])), rfl, ⟨[], rfl, by walk_at "lk", by walk_at "lk", by walk_at "lk", by walk_at "lk", by walk_at "lk", rfl⟩, ?_, ?_⟩
        · rintro pre d post ρ3 σ3 hd3 ⟨us, rfl, j1, j2, j3, j4, j5, rfl⟩ KB hKB
          obtain ⟨t, vs, rfl, hts⟩ := map_split tie_inj hd3
          have hus : us.length ≤ 8 := by have := congrArg List.length hts; simp at this; (first | lia | omega)
          obtain ⟨p1, p2, p3, -⟩ := pushAll_spec (ts := ts) (r := r ++ ps ++ [p]) (p := p) (us := us) (by simp) (fun t ht => by rw [hts]; exact List.mem_append_left _ ht) v2 v3'
          have pnext : pushAll (us ++ [t]) (r ++ ps ++ [p]) p H = pushOne (r ++ ps ++ [p]) p (pushAll us (r ++ ps ++ [p]) p H) t := by
            unfold pushAll; rw [List.foldl_append]; rfl
          generalize pushAll us (r ++ ps ++ [p]) p H = P at p1 p2 p3 pnext ⊢
          have stay : ¬ ((p = t.n ∨ p = t.f) ∧ (t.n ∉ r ++ ps ++ [p] ∨ t.f ∉ r ++ ps ++ [p])) → ∃ us_1 : List Tie, A7 (List.map Tie.d us ++ [t.d] = List.map Tie.d us_1) ((ρ3.set "tie" (V.d t.d)) "ties" = some (.d (gl ts))) ((ρ3.set "tie" (V.d t.d)) "heap" = some (.raw (.ref ah))) ((ρ3.set "tie" (V.d t.d)) "tree" = some (.raw (.ref at1))) ((ρ3.set "tie" (V.d t.d)) "reached" = some (.raw (.ref ar))) ((ρ3.set "tie" (V.d t.d)) "place" = some (.d (.int p))) (S3 σ ah at1 ar P T (r ++ ps ++ [p]) = S3 σ ah at1 ar (pushAll us_1 (r ++ ps ++ [p]) p H) T (r ++ ps ++ [p])) := fun q =>
            ⟨us ++ [t], by simp, by walk_at "lk", by walk_at "lk", by walk_at "lk", by walk_at "lk", by walk_at "lk", by rw [pnext]; unfold pushOne; rw [if_neg q]⟩
          walk_at "m"
          refine ev_tslice2 W.ok ?_
          walk_at "m"
          refine ⟨rfl, _, _, _, _, rfl, ?_⟩
          refine op_in_tup (t := .int) (Vw.d _) (Vw.d _) (has_int p) (by simp [Has]) (by have := W.u; simp [Ty.depth]; (first | lia | omega)) ?_
          by_cases hp : p = t.n ∨ p = t.f
          · rw [decide_eq_true (mem_ends.mpr hp)]
            walk_at "m"
            refine op_notin_list (t := .int) (Vw.d _) (Vw.p S3.gc) (has_int _) has_ints (by have := W.u; simp [Ty.depth]; (first | lia | omega)) ?_
            have fin : (t.n ∉ r ++ ps ++ [p] ∨ t.f ∉ r ++ ps ++ [p]) → ∃ us_1 : List Tie, A7 (List.map Tie.d us ++ [t.d] = List.map Tie.d us_1) ((ρ3.set "tie" (V.d t.d)) "ties" = some (.d (gl ts))) ((ρ3.set "tie" (V.d t.d)) "heap" = some (.raw (.ref ah))) ((ρ3.set "tie" (V.d t.d)) "tree" = some (.raw (.ref at1))) ((ρ3.set "tie" (V.d t.d)) "reached" = some (.raw (.ref ar))) ((ρ3.set "tie" (V.d t.d)) "place" = some (.d (.int p))) ((S3 σ ah at1 ar P T (r ++ ps ++ [p])).set ah (hpush D.lt P t.d) = S3 σ ah at1 ar (pushAll us_1 (r ++ ps ++ [p]) p H) T (r ++ ps ++ [p])) := fun q =>
              ⟨us ++ [t], by simp, by walk_at "lk", by walk_at "lk", by walk_at "lk", by walk_at "lk", by walk_at "lk", by rw [pnext, S3.setA n1 n2]; unfold pushOne; rw [if_pos ⟨hp, q⟩]⟩
            by_cases hq1 : t.n ∈ r ++ ps ++ [p]
            · rw [decide_eq_true ((mem_map' int_inj).mpr hq1)]
              walk_at "m"
              refine op_notin_list (t := .int) (Vw.d _) (Vw.p S3.gc) (has_int _) has_ints (by have := W.u; simp [Ty.depth]; (first | lia | omega)) ?_
              by_cases hq2 : t.f ∈ r ++ ps ++ [p]
              · rw [decide_eq_true ((mem_map' int_inj).mpr hq2)]
                walk_at "m"
                exact stay fun q => q.2.elim (fun z => z hq1) (fun z => z hq2)
              · rw [decide_eq_false (fun q => hq2 ((mem_map' int_inj).mp q))]
                walk_at "m"
                refine W.fn (w_heappush (t := tyT) (S3.ga n1 n2) (by (first | lia | omega)) (hd_ties p2) (has_tie t) ?_) (by decide) (by rw [depT]; decide)
                refine ⟨rfl, ?_⟩
                walk_at "m"
                exact fin (.inr hq2)
            · rw [decide_eq_false (fun q => hq1 ((mem_map' int_inj).mp q))]
              walk_at "m"
              refine W.fn (w_heappush (t := tyT) (S3.ga n1 n2) (by (first | lia | omega)) (hd_ties p2) (has_tie t) ?_) (by decide) (by rw [depT]; decide)
              refine ⟨rfl, ?_⟩
              walk_at "m"
              exact fin (.inl hq1)
          · rw [decide_eq_false (fun q => hp (mem_ends.mp q))]
            walk_at "m"
            exact stay fun q => hp q.1
        · rintro ρ3 σ3 ⟨us, hu, j1, j2, j3, j4, j5, rfl⟩
          have := map_inj' tie_inj hu
          subst this
          walk_at "m"
          refine ⟨ps ++ [p], by simp, by walk_at "lk", by walk_at "lk", by walk_at "lk", by walk_at "lk", ?_⟩
          rw [vap]
          simp
      · rintro ρ2 σ2 ⟨ps, hps, k1, k2, k3, k4, rfl⟩
        have := map_inj' int_inj hps
        subst this
        obtain ⟨v1, v2, v3, v4, v5⟩ := visit_pre gi.heap gi.el hz hrf hhl (show f = f ++ [] by simp)
        obtain ⟨H, hH⟩ : ∃ H, visitAll ts f r h = (r ++ f, H) := ⟨_, Prod.ext v1 rfl⟩
        rw [hH] at v2 v3 v4 ⊢
        dsimp only at v2 v3 v4 ⊢
        walk_at "m"
        refine ev_list W.ok ?_
        walk_at "m"
        refine ⟨[], rfl, by simp, .inl ?_⟩
        walk_at "m"
        refine ev_list W.ok ?_
        walk_at "m"
        refine ⟨[], rfl, by simp, .inl ?_⟩
        walk_at "m"
        refine op_cmp_ne (t := .lst tyT) (Vw.p (S3.ga n1 n2)) (Vw.d _) (has_lst (hd_ties v3)) (has_lst (by simp)) (by have := W.u; simp [Ty.depth, depT]; (first | lia | omega)) ?_
        by_cases hH0 : H = []
        · rw [decide_eq_true (by rw [hH0])]
          walk_at "m"
          refine ⟨10 * (5 - (r ++ f).length) + ([] : List D).length, ?_, [], T, r ++ f, [], rfl, .empty gr (by rw [hH, hH0]), by walk_at "lk", by walk_at "lk", by walk_at "lk", by walk_at "lk", by walk_at "lk", by rw [hH0]⟩
          have : 0 < f.length ∨ 0 < h.length := hgo.imp List.length_pos_iff.mpr List.length_pos_iff.mpr
          rw [hn, List.length_append, List.length_nil]
          (first | lia | omega)
        · rw [decide_eq_false (fun q => hH0 (by injection q))]
          obtain ⟨l, x, rfl⟩ : E2 fun l x => H = l ++ [x] := ⟨H.dropLast, H.getLast hH0, (List.dropLast_concat_getLast hH0).symm⟩
          obtain ⟨c1, c2, c3⟩ := hpop_spec TO.ltD v2
          obtain ⟨u, hu1, hu2, hu3⟩ := v3 _ (c2.mem_iff.mp (.head _))
          have hlen := c2.length_eq
          simp only [List.length_cons, List.length_append, List.length_nil] at hlen v4
          have tys := hd_ties v3
          walk_at "m"
          refine W.fn (w_heappop (t := tyT) (l := l) (x := x) (S3.ga n1 n2) (by (first | lia | omega)) (fun d hd => tys d (List.mem_append_left _ hd)) (tys x (by simp)) ?_) (by decide) (by rw [depT]; decide)
          have grn := gr.pop hH hu2
          generalize hpop D.lt l x = pp at c1 c2 c3 hu2 hlen grn ⊢
          obtain ⟨top, H2⟩ := pp
          dsimp only at c1 c2 c3 hu2 hlen grn ⊢
          subst hu2
          rw [S3.setA n1 n2]
          walk_at "m1"
          obtain ⟨a1, h1⟩ := Option.isSome_iff_exists.mp (cof hcs (x := Str.ofString "reached") (by rfl))
          refine ex_assign_compT W.ok (clos1 (x := Str.ofString "reached") (a := a1) h1 (by simp [closureFor, cellOf_eq h1]) (by decide) (by rw [kof W.s (by rfl)]; decide) (by decide) (by rfl) (by decide)) (by rfl) (kof W.s (by rfl)) (by unfold swapsWith Env.blockKind Env.kindOf; rw [W.s]; rfl) ?_ (fun _ => rfl)
          refine ev_tslice2 W.ok ?_
          walk_at "m"
          refine ⟨rfl, _, _, _, _, rfl, ?_⟩
          refine ⟨[.int u.n, .int u.f], fun pre acc σ3 => σ3 = S3 σ ah at1 ar H2 T (r ++ f) ∧ ∃ ps : List Int, pre = ps.map D.int ∧ acc = (ps.filter fun e => decide (e ∉ r ++ f)).map D.int, rfl, by simp, ⟨rfl, [], rfl, rfl⟩, ?_, ?_⟩
          · rintro C pre d post acc σ3 ok hd3 ⟨rfl, ps, rfl, rfl⟩ hl
            obtain ⟨e, qs, rfl, hes⟩ := map_split (ts := [u.n, u.f]) int_inj hd3
            walk_at "kid"
            walk_at "m"
            refine op_notin_list (t := .int) (Vw.d _) (Vw.p S3.gc) (has_int _) has_ints (by have := W.u; simp [Ty.depth]; (first | lia | omega)) ?_
            by_cases he : e ∈ r ++ f
            · rw [decide_eq_true ((mem_map' int_inj).mpr he)]
              walk_at "m"
              refine ⟨rfl, ps ++ [e], by simp, ?_⟩
              rw [List.filter_append]
              simp only [List.filter_cons, he, not_true_eq_false, decide_false]
              simp
            · rw [decide_eq_false (fun q => he ((mem_map' int_inj).mp q))]
              walk_at "m"
              refine ⟨_, rfl, rfl, ps ++ [e], by simp, ?_⟩
              rw [List.filter_append]
              simp only [List.filter_cons, he, not_false_eq_true, decide_true]
              simp
          · rintro acc σ3 ⟨rfl, ps, hps, rfl⟩ hl
            have hps' : [u.n, u.f] = ps := map_inj' int_inj (show [u.n, u.f].map D.int = ps.map D.int from hps)
            subst hps'
            have hfr : List.filter (fun e => decide (e ∉ r ++ f)) [u.n, u.f] = freshOf u (r ++ f) := rfl
            rw [hfr]
            refine .inl ?_
            walk_at "m"
            refine ev_extend W.ok (by rfl) (by rfl) ?_
            walk_at "m"
            refine ⟨at1, _, rfl, S3.gb n3, ?_⟩
            walk_at "m"
            refine ev_list W.ok ?_
            walk_at "m"
            refine ⟨[], rfl, by simp, .inl ?_⟩
            refine op_cmp_ne (t := .lst .int) (Vw.d _) (Vw.d _) has_lint (has_lst (by simp)) (by have := W.u; simp [Ty.depth]; (first | lia | omega)) ?_
            have meas : 10 * (5 - (r ++ f).length) + H2.length < n := by
              have : 0 < f.length ∨ 0 < h.length := hgo.imp List.length_pos_iff.mpr List.length_pos_iff.mpr
              rw [hn, List.length_append]
              (first | lia | omega)
            by_cases hfo : freshOf u (r ++ f) = []
            · rw [if_pos hfo] at grn
              rw [decide_eq_true (by rw [hfo]; rfl)]
              walk_at "m"
              refine ev_list W.ok ?_
              walk_at "m"
              refine ⟨[], rfl, by simp, .inl ?_⟩
              refine ⟨[], _, rfl, S3.gb n3, by simp; (first | lia | omega), by simp, rfl, ?_⟩
              walk_at "m"
              refine ⟨_, meas, H2, T, r ++ f, freshOf u (r ++ f), rfl, grn, by walk_at "lk", by walk_at "lk", by walk_at "lk", by walk_at "lk", by walk_at "lk", ?_⟩
              rw [List.append_nil, S3.setB n3]
            · rw [if_neg hfo] at grn
              rw [decide_eq_false (fun q => hfo (by injection q with q; exact List.map_eq_nil_iff.mp q))]
              walk_at "m"
              refine ev_list W.ok ?_
              walk_at "m"
              refine ⟨[u.d], rfl, by simp, .inl ?_⟩
              refine ⟨[u.d], _, rfl, S3.gb n3, by simp; (first | lia | omega), by simp, rfl, ?_⟩
              walk_at "m"
              refine ⟨_, meas, H2, T ++ [u], r ++ f, freshOf u (r ++ f), rfl, grn, by walk_at "lk", by walk_at "lk", by walk_at "lk", by walk_at "lk", by walk_at "lk", ?_⟩
              rw [show List.map Tie.d T ++ [u.d] = (T ++ [u]).map Tie.d from by simp, S3.setB n3]
    · rw [decide_eq_false hgo]
      have hf : f = [] := Classical.byContradiction fun q => hgo (.inl q)
      have hh : h = [] := Classical.byContradiction fun q => hgo (.inr q)
      subst hf hh
      walk_at "m1"
      walk_at "m1"
      walk_at "m1"
      refine ev_forget W.ok (ev_freeze W.ok ?_)
      walk_at "m"
      refine ⟨at1, _, rfl, S3.gb n3, σ, S3.low ha1 z2 z3, ?_⟩
      walk_at "m"
      exact hk T r gr
theorem perm_map_inv {α β : Type} {f : α → β} {es m : List β} (h : es.Perm m) : ∀ {l : List α}, m = l.map f → ∃ l' : List α, es = l'.map f ∧ l'.Perm l := by
  induction h with
  | nil =>
    intro l e
    cases l with
    | nil => exact ⟨[], rfl, .nil⟩
    | cons a l => simp at e
  | cons x _ ih =>
    intro l e
    cases l with
    | nil => simp at e
    | cons y ys =>
      simp only [List.map_cons, List.cons.injEq] at e
      obtain ⟨l', h1, h2⟩ := ih e.2
      exact ⟨y :: l', by rw [h1, e.1]; rfl, h2.cons y⟩
  | swap x y l0 =>
    intro l e
    match l, e with
    | a :: b :: t, e =>
      simp only [List.map_cons, List.cons.injEq] at e
      exact ⟨b :: a :: t, by rw [e.1, e.2.1, e.2.2]; rfl, .swap ..⟩
  | trans _ _ ih1 ih2 =>
    intro l e
    obtain ⟨l2, h1, h2⟩ := ih2 e
    obtain ⟨l1, h3, h4⟩ := ih1 h1
    exact ⟨l1, h3, h4.trans h2⟩
theorem op_ex0 {c : Cx} {ρ : Vars} {σ : Sto} {K : V → Sto → Prop} {l r : Expr} {e : Tie × Tie} (h : K (.d (.int (e.1.w - e.2.w))) σ) (hs : ∀ b u, subscripted r false (.ref b) (.int 0 u) = operate [.ref b, .int 0 u] (getItem (.ref b) (.int 0 u))) : Op2 c ρ σ (subscriptTail l r) (.d (exD e)) (.d (.int 0)) K :=
  op_place (ds := [.int (e.1.w - e.2.w), e.1.d, e.2.d]) (j := 0) (by decide) (by decide) (by rfl) (by rfl) h hs
theorem op_ex1 {c : Cx} {ρ : Vars} {σ : Sto} {K : V → Sto → Prop} {l r : Expr} {e : Tie × Tie} (h : K (.d e.1.d) σ) (hs : ∀ b u, subscripted r false (.ref b) (.int 1 u) = operate [.ref b, .int 1 u] (getItem (.ref b) (.int 1 u))) : Op2 c ρ σ (subscriptTail l r) (.d (exD e)) (.d (.int 1)) K :=
  op_place (ds := [.int (e.1.w - e.2.w), e.1.d, e.2.d]) (j := 1) (by decide) (by decide) (by rfl) (by rfl) h hs
theorem op_ex2 {c : Cx} {ρ : Vars} {σ : Sto} {K : V → Sto → Prop} {l r : Expr} {e : Tie × Tie} (h : K (.d e.2.d) σ) (hs : ∀ b u, subscripted r false (.ref b) (.int 2 u) = operate [.ref b, .int 2 u] (getItem (.ref b) (.int 2 u))) : Op2 c ρ σ (subscriptTail l r) (.d (exD e)) (.d (.int 2)) K :=
  op_place (ds := [.int (e.1.w - e.2.w), e.1.d, e.2.d]) (j := 2) (by decide) (by decide) (by rfl) (by rfl) h hs
theorem w_led {prog : Program} {w : World} {r0 : Shared} {σ : Sto} {T : List Tie} {e : Tie × Tie} {K : V → Sto → Prop} (h1 : 1 ≤ (less T e.2).length) (hz : T.length ≤ 8)
    (hk : ∀ us : List Tie, us.Perm (less T e.2 ++ [e.1]) → us.Pairwise (fun a b => D.lt b.d a.d = false) → K (.d (gl us)) σ) : Fn (KP w) prog w r0 1 9 147 [.d (gl T), .d (exD e)] σ K := by
  walk_at "go"
  walk_at "m"
  obtain ⟨a1, ha⟩ := Option.isSome_iff_exists.mp (cof hcs (x := Str.ofString "exchange") (by rfl))
  refine ev_comp W.ok (clos1 (x := Str.ofString "exchange") (a := a1) ha (by simp [closureFor, cellOf_eq ha]) (by decide) (by rw [kof W.s (by rfl)]; decide) (by decide) (by rfl) (by decide)) (by rfl) ?_ (fun _ => rfl)
  walk_at "m"
  refine comp_fm T Tie.d Tie.d (fun o => decide (o ≠ e.2)) ((less T e.2).map Tie.d) rfl (by lia) (fun C o ho ok => ?_) (.inl ?_)
  · walk_at "kid"
    walk_at "m"
    refine op_ex2 ?_ (fun _ _ => rfl)
    refine op_cmp_ne (Vw.d _) (Vw.d _) (has_tie o) (has_tie e.2) (by have := W.u; rw [depT]; (first | lia | omega)) ?_
    walk_at "m"
    by_cases hog : o = e.2
    · rw [decide_eq_true (congrArg Tie.d hog)]
      walk_at "m"
      exact ⟨decide_eq_false (fun q => q hog), rfl⟩
    · rw [decide_eq_false (fun q => hog (Tie.d_inj q))]
      walk_at "m"
      exact ⟨decide_eq_true hog, rfl, rfl⟩
  · walk_at "m"
    refine ev_list W.ok ?_
    walk_at "m"
    refine op_ex1 ?_ (fun _ _ => rfl)
    walk_at "m"
    refine ⟨[e.1.d], rfl, by simp, .inl ?_⟩
    have hl2 := less_len T e.2
    refine op_add_list W.ok (Vw.d _) (Vw.d _) (by simp; (first | lia | omega)) (.inl ?_)
    walk_at "m"
    refine cl_sorted_tups (ts := [.int, .int, .int]) W.ok (Vw.d _) (fun d hd => ?_) (by have := W.u; simp [Tys.depth, Ty.depth]; (first | lia | omega)) (by simp; (first | lia | omega)) (by simp; (first | lia | omega)) fun es hp hs => ?_
    · rw [show List.map Tie.d (less T e.2) ++ [e.1.d] = (less T e.2 ++ [e.1]).map Tie.d from by simp] at hd
      exact has_ties d hd
    · obtain ⟨us, rfl, hu⟩ := perm_map_inv hp (show List.map Tie.d (less T e.2) ++ [e.1.d] = (less T e.2 ++ [e.1]).map Tie.d from by simp)
      exact .inl (hk us hu (List.pairwise_map.mp hs))
end Mine
namespace Mine
open PySem.SeqAt Classical

/-! ### choices are the sublists of a length -/
theorem nodup_map {α β : Type} {f : α → β} : ∀ {l : List α}, l.Nodup → (∀ a ∈ l, ∀ b ∈ l, f a = f b → a = b) → (l.map f).Nodup
  | [], _, _ => by simp
  | x :: l, nd, hf => by
    rw [List.map_cons, List.nodup_cons]
    refine ⟨fun h => ?_, nodup_map (List.nodup_cons.mp nd).2 fun a ha b hb => hf a (.tail _ ha) b (.tail _ hb)⟩
    refine hide fun P_ hP_ => ?_
    obtain ⟨y, hy, e⟩ := List.mem_map.mp h
    refine hP_ ?_
    clear hP_ P_
    have := hf y (.tail _ hy) x (.head _) e
    subst this
    exact (List.nodup_cons.mp nd).1 hy
theorem sub_snoc {α : Type} {l us : List α} {t : α} : l.Sublist (us ++ [t]) ↔ l.Sublist us ∨ ∃ l', l = l' ++ [t] ∧ l'.Sublist us := by
  rw [List.sublist_append_iff]
  constructor
  · rintro q0_
    refine hide fun P_ hP_ => ?_
    obtain ⟨l1, l2, rfl, h1, h2⟩ := q0_
    refine hP_ ?_
    clear hP_ P_
    rcases List.sublist_cons_iff.mp h2 with h3 | ⟨r, rfl, h3⟩
    · have : l2 = [] := List.sublist_nil.mp h3
      subst this
      exact .inl (by simpa using h1)
    · have : r = [] := List.sublist_nil.mp h3
      subst this
      exact .inr ⟨l1, rfl, h1⟩
  · rintro (h | ⟨l', rfl, h⟩)
    · exact ⟨l, [], by simp, h, List.nil_sublist _⟩
    · exact ⟨l', [t], rfl, h, List.Sublist.refl _⟩
theorem fold_mem (m : Nat) (us : List Tie) : ∀ {c : List Tie}, c ∈ us.foldl (choiceStep m) [[]] ↔ c.Sublist us ∧ c.length ≤ m := by
  generalize hn : us.length = n
  induction n generalizing us with
  | zero =>
    have : us = [] := List.length_eq_zero_iff.mp hn
    subst this
    intro c
    simp only [List.foldl_nil, List.mem_singleton, List.sublist_nil]
    exact ⟨fun h => ⟨h, by simp [h]⟩, fun h => h.1⟩
  | succ n ih =>
    intro c
    obtain ⟨vs, t, rfl⟩ : ∃ vs t, us = vs ++ [t] := ⟨us.dropLast, us.getLast (by rintro rfl; simp at hn), (List.dropLast_concat_getLast _).symm⟩
    have ih' := @ih vs (by simpa using hn)
    rw [List.foldl_append, List.foldl_cons, List.foldl_nil]
    unfold choiceStep at ih' ⊢
    rw [List.mem_append, ih', sub_snoc]
    constructor
    · rintro (⟨h1, h2⟩ | h)
      · exact ⟨.inl h1, h2⟩
      · refine hide fun P_ hP_ => ?_
        obtain ⟨c', h1, rfl⟩ := List.mem_map.mp h
        refine hP_ ?_
        clear hP_ P_
        obtain ⟨h1, h2⟩ := List.mem_filter.mp h1
        have := (ih'.mp h1).1
        simp only [decide_eq_true_eq] at h2
        exact ⟨.inr ⟨c', rfl, this⟩, by simp; (first | lia | omega)⟩
    · rintro ⟨h1 | ⟨l', rfl, h1⟩, h2⟩
      · exact .inl ⟨h1, h2⟩
      · simp only [List.length_append, List.length_singleton] at h2
        exact .inr (List.mem_map.mpr ⟨l', List.mem_filter.mpr ⟨ih'.mpr ⟨h1, by (first | lia | omega)⟩, decide_eq_true (by (first | lia | omega))⟩, rfl⟩)
theorem choices_mem {m : Nat} {ts c : List Tie} : c ∈ choices m ts ↔ c.Sublist ts ∧ c.length = m := by
  unfold choices
  rw [List.mem_filter, fold_mem]
  simp only [decide_eq_true_eq]
  exact ⟨fun ⟨⟨h1, h2⟩, h3⟩ => ⟨h1, h3⟩, fun ⟨h1, h2⟩ => ⟨⟨h1, by (first | lia | omega)⟩, h2⟩⟩
theorem fold_nodup (m : Nat) (us : List Tie) (nd : us.Nodup) : (us.foldl (choiceStep m) [[]]).Nodup := by
  generalize hn : us.length = n
  induction n generalizing us with
  | zero =>
    have : us = [] := List.length_eq_zero_iff.mp hn
    subst this
    simp
  | succ n ih =>
    obtain ⟨vs, t, rfl⟩ : ∃ vs t, us = vs ++ [t] := ⟨us.dropLast, us.getLast (by rintro rfl; simp at hn), (List.dropLast_concat_getLast _).symm⟩
    refine hide fun P_ hP_ => ?_
    obtain ⟨nd1, -, nd2⟩ := List.nodup_append.mp nd
    refine hP_ ?_
    clear hP_ P_
    have ih' := ih vs nd1 (by simpa using hn)
    rw [List.foldl_append, List.foldl_cons, List.foldl_nil]
    unfold choiceStep at ih' ⊢
    rw [List.nodup_append]
    refine ⟨ih', nodup_map (List.filter_sublist.nodup ih') fun a _ b _ e => by simpa using e, fun a ha b hb e => ?_⟩
    refine hide fun P_ hP_ => ?_
    obtain ⟨c', h1, rfl⟩ := List.mem_map.mp hb
    refine hP_ ?_
    clear hP_ P_
    have hs := ((fold_mem m vs).mp ha).1
    have : t ∈ vs := hs.subset (by rw [e]; simp)
    exact nd2 t this t (by simp) rfl
theorem choices_nodup {m : Nat} {ts : List Tie} (nd : ts.Nodup) : (choices m ts).Nodup := List.filter_sublist.nodup (fold_nodup m ts nd)

/-! ### a sublist is told by its members -/
theorem sub_filter {c ts : List Tie} (h : c.Sublist ts) (nd : ts.Nodup) : c = ts.filter fun t => decide (t ∈ c) := by
  have s : c.Sublist (ts.filter fun t => decide (t ∈ c)) := by
    have := h.filter (fun t => decide (t ∈ c))
    rwa [List.filter_eq_self.mpr (by simp)] at this
  refine s.eq_of_length ?_
  have p : c.Perm (ts.filter fun t => decide (t ∈ c)) := (List.perm_ext_iff_of_nodup (h.nodup nd) (List.filter_sublist.nodup nd)).mpr fun a => by
    rw [List.mem_filter]
    exact ⟨fun ha => ⟨h.subset ha, by simpa using ha⟩, fun ha => by simpa using ha.2⟩
  exact p.length_eq
theorem sub_eq {c c' ts : List Tie} (h : c.Sublist ts) (h' : c'.Sublist ts) (nd : ts.Nodup) (hm : ∀ t, t ∈ c ↔ t ∈ c') : c = c' := by
  rw [sub_filter h nd, sub_filter h' nd]
  exact List.filter_congr fun x _ => by simp [hm x]

theorem Span.mono {c c' : List Tie} (h : Span c) (hs : ∀ t ∈ c, t ∈ c') : Span c' := fun x h0 h1 => (h x h0 h1).mono hs
/-- the trees are the trees -/
theorem trees_tree {ts c : List Tie} (nd : ts.Nodup) (h : c ∈ trees ts) : IsTree ts c := by
  unfold trees at h
  obtain ⟨h1, h2⟩ := List.mem_filter.mp h
  obtain ⟨h3, h4⟩ := choices_mem.mp h1
  exact ⟨fun t ht => h3.subset ht, h3.nodup nd, h4, by simpa using h2⟩
theorem tree_trees {ts U : List Tie} (nd : ts.Nodup) (h : IsTree ts U) : ∃ c ∈ trees ts, c.Perm U := by
  refine ⟨ts.filter fun t => decide (t ∈ U), ?_, ?_⟩
  · have p : (ts.filter fun t => decide (t ∈ U)).Perm U := (List.perm_ext_iff_of_nodup (List.filter_sublist.nodup nd) h.nd).mpr fun a => by
      rw [List.mem_filter]
      exact ⟨fun ha => by simpa using ha.2, fun ha => ⟨h.sub a ha, by simpa using ha⟩⟩
    unfold trees
    refine List.mem_filter.mpr ⟨choices_mem.mpr ⟨List.filter_sublist, by rw [p.length_eq, h.len]⟩, ?_⟩
    simp only [decide_eq_true_eq]
    exact h.span.mono fun t ht => p.mem_iff.mpr ht
  · exact (List.perm_ext_iff_of_nodup (List.filter_sublist.nodup nd) h.nd).mpr fun a => by
      rw [List.mem_filter]
      exact ⟨fun ha => by simpa using ha.2, fun ha => ⟨h.sub a ha, by simpa using ha⟩⟩
theorem trees_nodup {ts : List Tie} (nd : ts.Nodup) : (trees ts).Nodup := List.filter_sublist.nodup (choices_nodup nd)
theorem trees_eq {ts c c' : List Tie} (nd : ts.Nodup) (h : c ∈ trees ts) (h' : c' ∈ trees ts) (hm : c.Perm c') : c = c' := by
  unfold trees at h h'
  exact sub_eq (choices_mem.mp (List.mem_filter.mp h).1).1 (choices_mem.mp (List.mem_filter.mp h').1).1 nd fun t => hm.mem_iff
theorem Least.perm {ts T U : List Tie} (h : Least ts T) (p : T.Perm U) : Least ts U :=
  ⟨⟨fun t ht => h.1.sub t (p.mem_iff.mpr ht), p.nodup_iff.mp h.1.nd, by rw [← p.length_eq]; exact h.1.len, h.1.span.mono fun t ht => p.mem_iff.mp ht⟩, fun V hV => by rw [← worth_perm p]; exact h.2 V hV⟩
theorem least_of_list {L : List (List Tie)} (hne : L ≠ []) : ∃ M ∈ L, ∀ U ∈ L, worth M ≤ worth U := by
  induction L with
  | nil => exact absurd rfl hne
  | cons a L ih =>
    by_cases hL : L = []
    · subst hL
      exact ⟨a, .head _, fun U hU => by rcases List.mem_cons.mp hU with rfl | hU; exact Int.le_refl _; cases hU⟩
    · refine hide fun P_ hP_ => ?_
      obtain ⟨M, hM, h⟩ := ih hL
      refine hP_ ?_
      clear hP_ P_
      by_cases hw : worth a ≤ worth M
      · exact ⟨a, .head _, fun U hU => by rcases List.mem_cons.mp hU with rfl | hU; exact Int.le_refl _; exact Int.le_trans hw (h U hU)⟩
      · exact ⟨M, .tail _ hM, fun U hU => by rcases List.mem_cons.mp hU with rfl | hU; (first | lia | omega); exact h U hU⟩
theorem least_ex {ts P : List Tie} (nd : ts.Nodup) (hP : IsTree ts P) : ∃ M, Least ts M := by
  refine hide fun P_ hP_ => ?_
  obtain ⟨c, hc, -⟩ := tree_trees nd hP
  refine hP_ ?_
  clear hP_ P_
  refine hide fun P_ hP_ => ?_
  obtain ⟨M, hM, h⟩ := least_of_list (L := trees ts) (by rintro e; rw [e] at hc; cases hc)
  refine hP_ ?_
  clear hP_ P_
  refine ⟨M, trees_tree nd hM, fun U hU => ?_⟩
  refine hide fun P_ hP_ => ?_
  obtain ⟨c, hc, p⟩ := tree_trees nd hU
  refine hP_ ?_
  clear hP_ P_
  rw [← worth_perm p]
  exact h c hc
end Mine
namespace Mine
open PySem.SeqAt Classical

/-! ### Prim's tree -/
theorem Tie.le_w {t u : Tie} (h : Le D.lt t.d u.d) : t.w ≤ u.w := by
  unfold Le Tie.d at h
  rw [D.lt, Ds.lt] at h
  split at h
  · rename_i e
    injection e with e
    rw [e]; exact Int.le_refl _
  · simp [D.lt] at h; exact h
theorem visitAll_keep {ts : List Tie} : ∀ {f r : List Int} {h : List D}, HeapFrom D.lt h 0 → (∀ d ∈ h, ∃ t ∈ ts, d = t.d ∧ (t.n ∈ r ∨ t.f ∈ r)) → ∀ d ∈ h, d ∈ (visitAll ts f r h).2
  | [], r, h, _, _, d, hd => hd
  | p :: f, r, h, hh, he, d, hd => by
    have he' : ∀ d ∈ h, ∃ t ∈ ts, d = t.d ∧ (t.n ∈ r ++ [p] ∨ t.f ∈ r ++ [p]) := fun d hd => by
      refine hide fun P_ hP_ => ?_
      obtain ⟨t, h1, h2, h3⟩ := he d hd
      refine hP_ ?_
      clear hP_ P_
      exact ⟨t, h1, h2, h3.imp (List.mem_append_left _) (List.mem_append_left _)⟩
    refine hide fun P_ hP_ => ?_
    obtain ⟨a1, a2, a3, a4⟩ := pushAll_spec (ts := ts) (r := r ++ [p]) (p := p) (us := ts) (by simp) (fun t ht => ht) hh he'
    refine hP_ ?_
    clear hP_ P_
    rw [visitAll]
    exact visitAll_keep a1 a2 d ((a4 d).mpr (.inl hd))
/-- a tie from a visited place to one outside is in the heap -/
theorem visitAll_push {ts : List Tie} : ∀ {f r : List Int} {h : List D}, HeapFrom D.lt h 0 → (∀ d ∈ h, ∃ t ∈ ts, d = t.d ∧ (t.n ∈ r ∨ t.f ∈ r)) → ∀ t ∈ ts, (t.n ∈ f ∨ t.f ∈ f) → (t.n ∉ r ++ f ∨ t.f ∉ r ++ f) → t.d ∈ (visitAll ts f r h).2
  | [], r, h, _, _, t, ht, h1, h2 => by simp at h1
  | p :: f, r, h, hh, he, t, ht, h1, h2 => by
    have he' : ∀ d ∈ h, ∃ t ∈ ts, d = t.d ∧ (t.n ∈ r ++ [p] ∨ t.f ∈ r ++ [p]) := fun d hd => by
      refine hide fun P_ hP_ => ?_
      obtain ⟨t, h1, h2, h3⟩ := he d hd
      refine hP_ ?_
      clear hP_ P_
      exact ⟨t, h1, h2, h3.imp (List.mem_append_left _) (List.mem_append_left _)⟩
    refine hide fun P_ hP_ => ?_
    obtain ⟨a1, a2, a3, a4⟩ := pushAll_spec (ts := ts) (r := r ++ [p]) (p := p) (us := ts) (by simp) (fun t ht => ht) hh he'
    refine hP_ ?_
    clear hP_ P_
    rw [visitAll]
    by_cases hp : t.n ∈ f ∨ t.f ∈ f
    · exact visitAll_push a1 a2 t ht hp (by simpa using h2)
    · refine visitAll_keep a1 a2 _ ((a4 _).mpr (.inr ⟨t, ht, rfl, ?_, ?_⟩))
      · rcases h1 with h1 | h1
        · rcases List.mem_cons.mp h1 with e | h1
          · exact .inl e.symm
          · exact absurd (.inl h1) hp
        · rcases List.mem_cons.mp h1 with e | h1
          · exact .inr e.symm
          · exact absurd (.inr h1) hp
      · refine h2.imp (fun q z => q ?_) (fun q z => q ?_)
        · rcases List.mem_append.mp z with z | z
          · exact List.mem_append_left _ z
          · exact List.mem_append_right _ (by rw [List.mem_singleton.mp z]; exact .head _)
        · rcases List.mem_append.mp z with z | z
          · exact List.mem_append_left _ z
          · exact List.mem_append_right _ (by rw [List.mem_singleton.mp z]; exact .head _)
/-- what Prim's steps keep -/
structure PI (ts : List Tie) (b : Int) (h : List D) (T : List Tie) (r f : List Int) : Prop where
  bm : b ∈ r ++ f
  tin : ∀ t ∈ T, t.n ∈ r ++ f ∧ t.f ∈ r ++ f
  nd : T.Nodup
  cn : ∀ x ∈ r ++ f, Conn T b x
  hp : ∀ t ∈ ts, (t.n ∈ r ∧ t.f ∉ r ++ f ∨ t.f ∈ r ∧ t.n ∉ r ++ f) → t.d ∈ h
  lst : ∃ M, Least ts M ∧ ∀ t ∈ T, t ∈ M
theorem GR.prim {ts : List Tie} {b : Int} (ok : TsOk ts) (hb : 0 ≤ b ∧ b < 5) (hL : ∃ M, Least ts M) {h : List D} {T : List Tie} {r f : List Int} (g : GR ts b h T r f) : PI ts b h T r f := by
  induction g with
  | init => exact ⟨by simp, by simp, by simp, by simpa using Conn.refl b, by simp, by obtain ⟨M, hM⟩ := hL; exact ⟨M, hM, by simp⟩⟩
  | @empty h T r f r' g hv ih =>
    have gi := g.inv ok hb
    refine hide fun P_ hP_ => ?_
    obtain ⟨b1, b2, b3, b4⟩ := visitAll_spec (ts := ts) (f := f) gi.heap gi.el
    refine hP_ ?_
    clear hP_ P_
    have keep := visitAll_keep (ts := ts) (f := f) gi.heap gi.el
    have push := visitAll_push (ts := ts) (f := f) gi.heap gi.el
    rw [hv] at b1 keep push
    dsimp only at b1 keep push
    subst b1
    refine ⟨by simpa using ih.bm, by simpa using ih.tin, ih.nd, by simpa using ih.cn, fun t ht hc => ?_, ih.lst⟩
    rw [List.append_nil] at hc
    have : t.d ∈ ([] : List D) := by
      rcases hc with ⟨c1, c2⟩ | ⟨c1, c2⟩
      · rcases List.mem_append.mp c1 with c1 | c1
        · exact keep _ (ih.hp t ht (.inl ⟨c1, c2⟩))
        · exact push t ht (.inl c1) (.inr c2)
      · rcases List.mem_append.mp c1 with c1 | c1
        · exact keep _ (ih.hp t ht (.inr ⟨c1, c2⟩))
        · exact push t ht (.inr c1) (.inl c2)
    cases this
  | @pop h T r f r' l x u g hv hu ih =>
    have gi := g.inv ok hb
    refine hide fun P_ hP_ => ?_
    obtain ⟨b1, b2, b3, b4⟩ := visitAll_spec (ts := ts) (f := f) gi.heap gi.el
    refine hP_ ?_
    clear hP_ P_
    have keep := visitAll_keep (ts := ts) (f := f) gi.heap gi.el
    have push := visitAll_push (ts := ts) (f := f) gi.heap gi.el
    rw [hv] at b1 b2 b3 keep push
    dsimp only at b1 b2 b3 keep push
    subst b1
    refine hide fun P_ hP_ => ?_
    obtain ⟨c1, c2, c3⟩ := hpop_spec TO.ltD b2
    refine hP_ ?_
    clear hP_ P_
    refine hide fun P_ hP_ => ?_
    obtain ⟨u', hu1, hu2, hu3⟩ := b3 (hpop D.lt l x).1 (c2.mem_iff.mp (.head _))
    refine hP_ ?_
    clear hP_ P_
    rw [hu] at hu2 c3 c2
    have := Tie.d_inj hu2
    subst this
    -- before the pop: every tie that leaves r ++ f is in the heap
    have all : ∀ t ∈ ts, (t.n ∈ r ++ f ∧ t.f ∉ r ++ f ∨ t.f ∈ r ++ f ∧ t.n ∉ r ++ f) → t.d ∈ u.d :: (hpop D.lt l x).2 := fun t ht hc => by
      refine c2.mem_iff.mpr ?_
      rcases hc with ⟨c1, c2⟩ | ⟨c1, c2⟩
      · rcases List.mem_append.mp c1 with c1 | c1
        · exact keep _ (ih.hp t ht (.inl ⟨c1, c2⟩))
        · exact push t ht (.inl c1) (.inr c2)
      · rcases List.mem_append.mp c1 with c1 | c1
        · exact keep _ (ih.hp t ht (.inr ⟨c1, c2⟩))
        · exact push t ht (.inr c1) (.inl c2)
    rcases freshOf_spec hu3 (ok.ne u hu1) with ⟨e, e1, e2⟩ | ⟨y, e, hy, hyu⟩
    · rw [if_pos e, e]
      refine ⟨by simpa using ih.bm, by simpa using ih.tin, ih.nd, by simpa using ih.cn, fun t ht hc => ?_, ih.lst⟩
      rw [List.append_nil] at hc
      rcases List.mem_cons.mp (all t ht hc) with q | q
      · have := Tie.d_inj q
        subst this
        rcases hc with ⟨-, q⟩ | ⟨-, q⟩
        · exact absurd e2 q
        · exact absurd e1 q
      · exact q
    · rw [if_neg (by rw [e]; simp), e]
      have uT : u ∉ T := fun q => by
        have := ih.tin u q
        rcases hyu with ⟨rfl, -⟩ | ⟨rfl, -⟩
        · exact hy this.1
        · exact hy this.2
      refine ⟨List.mem_append_left _ ih.bm, fun t ht => ?_, ?_, fun z hz => ?_, fun t ht hc => ?_, ?_⟩
      · rcases List.mem_append.mp ht with ht | ht
        · exact ⟨List.mem_append_left _ (ih.tin t ht).1, List.mem_append_left _ (ih.tin t ht).2⟩
        · rw [List.mem_singleton.mp ht]
          rcases hyu with ⟨rfl, q⟩ | ⟨rfl, q⟩
          · exact ⟨by simp, List.mem_append_left _ q⟩
          · exact ⟨List.mem_append_left _ q, by simp⟩
      · rw [List.nodup_append]
        refine ⟨ih.nd, by simp, fun z hz w hw => ?_⟩
        rw [List.mem_singleton.mp hw]
        rintro rfl; exact uT hz
      · have up : ∀ {a c}, Conn T a c → Conn (T ++ [u]) a c := fun q => q.mono fun t ht => List.mem_append_left _ ht
        have uu : Conn (T ++ [u]) u.n u.f := Conn.tie (by simp)
        rcases List.mem_append.mp hz with hz | hz
        · exact up (ih.cn z hz)
        · rw [List.mem_singleton.mp hz]
          rcases hyu with ⟨rfl, q⟩ | ⟨rfl, q⟩
          · exact (up (ih.cn _ q)).trans uu.symm
          · exact (up (ih.cn _ q)).trans uu
      · have hc' : t.n ∈ r ++ f ∧ t.f ∉ r ++ f ∨ t.f ∈ r ++ f ∧ t.n ∉ r ++ f := hc.imp (fun q => ⟨q.1, fun z => q.2 (List.mem_append_left _ z)⟩) (fun q => ⟨q.1, fun z => q.2 (List.mem_append_left _ z)⟩)
        rcases List.mem_cons.mp (all t ht hc') with q | q
        · have := Tie.d_inj q
          subst this
          rcases hc with ⟨q1, q2⟩ | ⟨q1, q2⟩
          · rcases hyu with ⟨rfl, z⟩ | ⟨rfl, z⟩
            · exact absurd (List.mem_append_left _ z) q2
            · exact absurd (by simp) q2
          · rcases hyu with ⟨rfl, z⟩ | ⟨rfl, z⟩
            · exact absurd (by simp) q2
            · exact absurd (List.mem_append_left _ z) q2
        · exact q
      · refine hide fun P_ hP_ => ?_
        obtain ⟨M, hM, hT⟩ := ih.lst
        refine hP_ ?_
        clear hP_ P_
        by_cases huM : u ∈ M
        · exact ⟨M, hM, fun t ht => by rcases List.mem_append.mp ht with ht | ht; exact hT t ht; rw [List.mem_singleton.mp ht]; exact huM⟩
        · have hS : ¬ (u.n ∈ r ++ f ↔ u.f ∈ r ++ f) := fun q => by
            rcases hyu with ⟨rfl, z⟩ | ⟨rfl, z⟩
            · exact hy (q.mpr z)
            · exact hy (q.mp z)
          refine hide fun P_ hP_ => ?_
          obtain ⟨g', hg, hgS, hcr⟩ := cross_edge hM.1 ok hu1 (fun x => x ∈ r ++ f) hS
          refine hP_ ?_
          clear hP_ P_
          have hgt := hM.1.sub g' hg
          have gT : g' ∉ T := fun q => hgS ⟨fun _ => (ih.tin g' q).2, fun _ => (ih.tin g' q).1⟩
          have hgc : g'.n ∈ r ++ f ∧ g'.f ∉ r ++ f ∨ g'.f ∈ r ++ f ∧ g'.n ∉ r ++ f := by
            by_cases q : g'.n ∈ r ++ f
            · exact .inl ⟨q, fun z => hgS ⟨fun _ => z, fun _ => q⟩⟩
            · exact .inr ⟨Classical.byContradiction fun z => hgS ⟨fun w => absurd w q, fun w => absurd w z⟩, q⟩
          have hw : u.w ≤ g'.w := by
            rcases List.mem_cons.mp (all g' hgt hgc) with q | q
            · rw [Tie.d_inj q]; exact Int.le_refl _
            · exact Tie.le_w (c3 _ q)
          have tree := (hM.1.swap ok hg hu1 huM).mpr hcr
          refine ⟨less M g' ++ [u], ⟨tree, fun U hU => ?_⟩, fun t ht => ?_⟩
          · rw [worth_swap hM.1.nd hg]
            have := hM.2 U hU
            (first | lia | omega)
          · rcases List.mem_append.mp ht with ht | ht
            · exact List.mem_append_left _ (less_mem.mpr ⟨hT t ht, fun q => gT (q ▸ ht)⟩)
            · exact List.mem_append_right _ ht

theorem prim_least {ts : List Tie} {b : Int} (ok : TsOk ts) (hb : 0 ≤ b ∧ b < 5) (hs : Span ts) (hL : ∃ M, Least ts M) {T : List Tie} {r : List Int} (g : GR ts b [] T r []) : Least ts T := by
  have gi := g.inv ok hb
  have p := g.prim ok hb hL
  have bm : b ∈ r := by simpa using p.bm
  have nd : r.Nodup := by simpa using gi.nd
  have closed : ∀ x, InR x → x ∈ r := fun x hx => (hs.conn (x := b) hb hx (fun x => x ∈ r) fun t ht => by
    constructor
    · intro q
      refine Classical.byContradiction fun z => ?_
      have := p.hp t ht (.inl ⟨q, by simpa using z⟩)
      cases this
    · intro q
      refine Classical.byContradiction fun z => ?_
      have := p.hp t ht (.inr ⟨q, by simpa using z⟩)
      cases this).mp bm
  have five : r.length = 5 := by
    have h1 := nodup_five nd (by simpa using gi.rg)
    have h2 := nodup_le (met := ([0, 1, 2, 3, 4] : List Int)) (L := r) (by decide) fun x hx => closed x (by
      unfold InR; simp at hx; (first | lia | omega))
    simp at h2; (first | lia | omega)
  have len : T.length = 4 := by have := gi.len; simp at this; (first | lia | omega)
  have tree : IsTree ts T := ⟨gi.sub, p.nd, len, Span.of (p := b) fun x hx => p.cn x (by simpa using closed x hx)⟩
  refine hide fun P_ hP_ => ?_
  obtain ⟨M, hM, hT⟩ := p.lst
  refine hP_ ?_
  clear hP_ P_
  have q : T.Perm M := by
    refine (List.perm_ext_iff_of_nodup p.nd hM.1.nd).mpr fun a => ⟨hT a, fun ha => Classical.byContradiction fun z => ?_⟩
    have h1 : (a :: T).Nodup := List.nodup_cons.mpr ⟨z, p.nd⟩
    have h2 := nodup_le (met := a :: T) (L := M) h1 fun x hx => by
      rcases List.mem_cons.mp hx with rfl | hx
      · exact ha
      · exact hT x hx
    have := hM.1.len
    simp at h2; (first | lia | omega)
  exact hM.perm q.symm
end Mine
namespace Mine
open PySem.SeqAt Classical

/-! ### fewer than 64 trees -/
def base (n : Nat) : List Tie := (List.range n).map fun (k : Nat) => ⟨0, k, 0, 0⟩
def lenStep (m : Nat) (found : List Nat) : List Nat := found ++ (found.filter fun c => decide (c < m)).map (· + 1)
noncomputable def lens (m : Nat) : Nat → List Nat
  | 0 => [0]
  | n + 1 => lenStep m (lens m n)
theorem fold_lens (m : Nat) : ∀ (us : List Tie) (found : List (List Tie)) (n : Nat), found.map List.length = lens m n → (us.foldl (choiceStep m) found).map List.length = lens m (n + us.length)
  | [], found, n, h => h
  | u :: us, found, n, h => by
    rw [List.foldl_cons, List.length_cons, show n + (us.length + 1) = (n + 1) + us.length from by (first | lia | omega)]
    refine fold_lens m us _ _ ?_
    unfold choiceStep
    rw [lens, ← h]
    unfold lenStep
    rw [List.map_append, List.filter_map, List.map_map, List.map_map]
    congr 1
    apply List.map_congr_left
    intro c _
    simp
theorem choices_lens (m : Nat) (us : List Tie) : (choices m us).length = ((lens m us.length).filter fun c => decide (c = m)).length := by
  have := fold_lens m us [[]] 0 rfl
  rw [Nat.zero_add] at this
  unfold choices
  rw [← this, List.filter_map, List.length_map]
  congr 1
theorem cc7 {us : List Tie} (h : us.length = 7) : (choices 4 us).length = 35 := by rw [choices_lens, h]; decide +kernel
theorem cc8 {us : List Tie} (h : us.length = 8) : (choices 4 us).length = 70 := by rw [choices_lens, h]; decide +kernel
theorem cc6 {us : List Tie} (h : us.length = 6) : (choices 4 us).length = 15 := by rw [choices_lens, h]; decide +kernel
theorem cc5 {us : List Tie} (h : us.length = 5) : (choices 4 us).length = 5 := by rw [choices_lens, h]; decide +kernel
theorem cc4 {us : List Tie} (h : us.length = 4) : (choices 4 us).length = 1 := by rw [choices_lens, h]; decide +kernel

/-- the ties that do not touch a place -/
def off (ts : List Tie) (v : Int) : List Tie := ts.filter fun t => decide (t.n ≠ v ∧ t.f ≠ v)
theorem off_mem {ts : List Tie} {v : Int} {t : Tie} : t ∈ off ts v ↔ t ∈ ts ∧ t.n ≠ v ∧ t.f ≠ v := by unfold off; rw [List.mem_filter]; simp
theorem off_not_span {ts c : List Tie} {v : Int} (hv : InR v) (hc : ∀ t ∈ c, t ∈ off ts v) : ¬ Span c := fun h => by
  have w : ∃ u, InR u ∧ u ≠ v := by
    by_cases q : v = 0
    · exact ⟨1, by unfold InR; (first | lia | omega), by (first | lia | omega)⟩
    · exact ⟨0, by unfold InR; (first | lia | omega), by (first | lia | omega)⟩
  refine hide fun P_ hP_ => ?_
  obtain ⟨u, hu, huv⟩ := w
  refine hP_ ?_
  clear hP_ P_
  have := (h.conn hu hv) (fun x => x = v) fun t ht => by
    have := (off_mem.mp (hc t ht)).2
    exact ⟨fun q => absurd q this.1, fun q => absurd q this.2⟩
  exact huv (this.mpr rfl)
theorem off5 : ∀ a b : _root_.Fin 5, a ≠ b → (if ((a : Nat) : Int) ≠ 0 ∧ ((b : Nat) : Int) ≠ 0 then 1 else 0) + (if ((a : Nat) : Int) ≠ 1 ∧ ((b : Nat) : Int) ≠ 1 then 1 else 0) + (if ((a : Nat) : Int) ≠ 2 ∧ ((b : Nat) : Int) ≠ 2 then 1 else 0) + (if ((a : Nat) : Int) ≠ 3 ∧ ((b : Nat) : Int) ≠ 3 then 1 else 0) + (if ((a : Nat) : Int) ≠ 4 ∧ ((b : Nat) : Int) ≠ 4 then 1 else 0) = 3 := by decide
theorem fin5 {n : Int} (h : 0 ≤ n ∧ n < 5) : ∃ a : _root_.Fin 5, n = ((a : Nat) : Int) := ⟨⟨n.toNat, by lia⟩, (Int.toNat_of_nonneg h.1).symm⟩
theorem sum_off {ts : List Tie} (ok : TsOk ts) : (off ts 0).length + (off ts 1).length + (off ts 2).length + (off ts 3).length + (off ts 4).length = 3 * ts.length := by
  induction ts with
  | nil => rfl
  | cons t ts ih =>
    have ih := ih ⟨fun u hu => ok.rg u (.tail _ hu), fun u hu => ok.ne u (.tail _ hu)⟩
    have step : ∀ v, (off (t :: ts) v).length = (off ts v).length + if t.n ≠ v ∧ t.f ≠ v then 1 else 0 := fun v => by
      unfold off
      rw [List.filter_cons]
      by_cases q : t.n ≠ v ∧ t.f ≠ v
      · rw [if_pos (decide_eq_true q), if_pos q]; rfl
      · rw [if_neg (by simpa using q), if_neg q]; rfl
    obtain ⟨a, ha⟩ := fin5 (ok.rg t (.head _)).1
    obtain ⟨b, hb⟩ := fin5 (ok.rg t (.head _)).2
    have key := off5 a b fun q => ok.ne t (.head _) (by rw [ha, hb, q])
    rw [← ha, ← hb] at key
    rw [step, step, step, step, step, List.length_cons]
    exact (show ∀ a b c d e i j k l m n : Nat, a + b + c + d + e = 3 * n → i + j + k + l + m = 3 → (a + i) + (b + j) + (c + k) + (d + l) + (e + m) = 3 * (n + 1) by intros; lia) _ _ _ _ _ _ _ _ _ _ _ ih key
/-- choices that are no trees, told one by one -/
theorem few_trees {ts : List Tie} (nd : ts.Nodup) {X : List (List Tie)} (hX : X.Nodup) (hm : ∀ c ∈ X, c ∈ choices 4 ts ∧ ¬ Span c) : (trees ts).length + X.length ≤ (choices 4 ts).length := by
  have h1 : (trees ts ++ X).Nodup := List.nodup_append.mpr ⟨trees_nodup nd, hX, fun a ha b hb e => by
    unfold trees at ha
    have := (List.mem_filter.mp ha).2
    simp only [decide_eq_true_eq] at this
    exact (hm b hb).2 (e ▸ this)⟩
  have := nodup_le h1 (L := choices 4 ts) fun c hc => by
    rcases List.mem_append.mp hc with hc | hc
    · unfold trees at hc; exact (List.mem_filter.mp hc).1
    · exact (hm c hc).1
  simpa using this
theorem off_choice {ts c : List Tie} {v : Int} (hv : InR v) (h : c ∈ choices 4 (off ts v)) : c ∈ choices 4 ts ∧ ¬ Span c := by
  obtain ⟨h1, h2⟩ := choices_mem.mp h
  exact ⟨choices_mem.mpr ⟨h1.trans List.filter_sublist, h2⟩, off_not_span hv fun t ht => h1.subset ht⟩
theorem cc_big {us : List Tie} (nd : us.Nodup) (h : 6 ≤ us.length) : 15 ≤ (choices 4 us).length := by
  have h1 : (us.take 6).length = 6 := by simp; (first | lia | omega)
  have h2 := cc6 h1
  have nd6 : (us.take 6).Nodup := (List.take_sublist _ _).nodup nd
  have := nodup_le (choices_nodup (m := 4) nd6) (L := choices 4 us) fun c hc => by
    obtain ⟨h1, h2⟩ := choices_mem.mp hc
    exact choices_mem.mpr ⟨h1.trans (List.take_sublist _ _), h2⟩
  (first | lia | omega)
/-- two places, each off five ties, and a tie off one of them alone -/
theorem two_off {ts : List Tie} (nd : ts.Nodup) {u v : Int} (hu : InR u) (hv : InR v) (h1 : (off ts u).length = 5) (h2 : (off ts v).length = 5) {e : Tie} (he : e ∈ off ts v) (heu : e ∉ off ts u) : (trees ts).length + 9 ≤ (choices 4 ts).length := by
  have ndu : (off ts u).Nodup := List.filter_sublist.nodup nd
  have ndv : (off ts v).Nodup := List.filter_sublist.nodup nd
  have nc := choices_nodup (m := 4) ndv
  have nX : (choices 4 (off ts u) ++ (choices 4 (off ts v)).filter fun c => decide (e ∈ c)).Nodup := List.nodup_append.mpr ⟨choices_nodup ndu, List.filter_sublist.nodup nc, fun a ha b hb q => by
    have hb2 := (List.mem_filter.mp hb).2
    simp only [decide_eq_true_eq] at hb2
    subst q
    exact heu ((choices_mem.mp ha).1.subset hb2)⟩
  have hX := few_trees nd nX fun c hc => by
    rcases List.mem_append.mp hc with hc | hc
    · exact off_choice hu hc
    · exact off_choice hv (List.mem_filter.mp hc).1
  rw [List.length_append, cc5 h1] at hX
  have split : ((choices 4 (off ts v)).filter fun c => decide (e ∈ c)).length + ((choices 4 (off ts v)).filter fun c => decide (e ∉ c)).length = (choices 4 (off ts v)).length := by
    generalize choices 4 (off ts v) = L
    induction L with
    | nil => rfl
    | cons a L ih =>
      rw [List.filter_cons, List.filter_cons, List.length_cons]
      by_cases q : e ∈ a
      · rw [if_pos (by simpa using q), if_neg (by simpa using q)]; simp only [List.length_cons]; (first | lia | omega)
      · rw [if_neg (by simpa using q), if_pos (by simpa using q)]; simp only [List.length_cons]; (first | lia | omega)
  rw [cc5 h2] at split
  have one : ((choices 4 (off ts v)).filter fun c => decide (e ∉ c)).length ≤ (choices 4 (less (off ts v) e)).length := nodup_le (List.filter_sublist.nodup nc) fun c hc => by
    obtain ⟨c1, c2⟩ := List.mem_filter.mp hc
    simp only [decide_eq_true_eq] at c2
    obtain ⟨c3, c4⟩ := choices_mem.mp c1
    refine choices_mem.mpr ⟨?_, c4⟩
    have := c3.filter (fun o => decide (o ≠ e))
    rw [List.filter_eq_self.mpr (fun x hx => by simp only [decide_eq_true_eq]; rintro rfl; exact c2 hx)] at this
    exact this
  rw [cc4 (by have := less_nodup_len ndv he; (first | lia | omega))] at one
  (first | lia | omega)
theorem trees_count {ts : List Tie} (ok : TsOk ts) (nd : ts.Nodup) (hl : ts.length = 7 ∨ ts.length = 8) {e : Tie} (he : e ∈ ts) (hen : e.n = 0) (hef : e.f = 1) : (trees ts).length < 64 := by
  rcases hl with hl | hl
  · have h1 := cc7 hl
    have : (trees ts).length ≤ (choices 4 ts).length := by unfold trees; exact List.length_filter_le _ _
    (first | lia | omega)
  · have h8 := cc8 hl
    have hs := sum_off ok
    rw [hl] at hs
    by_cases big : ∃ v, InR v ∧ 6 ≤ (off ts v).length
    · refine hide fun P_ hP_ => ?_
      obtain ⟨v, hv, h6⟩ := big
      refine hP_ ?_
      clear hP_ P_
      have ndv : (off ts v).Nodup := List.filter_sublist.nodup nd
      have h1 := cc_big (us := off ts v) ndv h6
      have h2 := few_trees nd (X := choices 4 (off ts v)) (choices_nodup ndv) (fun c hc => off_choice (v := v) hv hc)
      (first | lia | omega)
    · have le5 : ∀ v, InR v → (off ts v).length ≤ 5 := fun v hv => by
        have : ¬ 6 ≤ (off ts v).length := fun q => big ⟨v, hv, q⟩
        (first | lia | omega)
      have r0 : InR 0 := by unfold InR; (first | lia | omega)
      have r1 : InR 1 := by unfold InR; (first | lia | omega)
      have r2 : InR 2 := by unfold InR; (first | lia | omega)
      have r3 : InR 3 := by unfold InR; (first | lia | omega)
      have r4 : InR 4 := by unfold InR; (first | lia | omega)
      have l0 := le5 0 r0
      have l1 := le5 1 r1
      have l2 := le5 2 r2
      have l3 := le5 3 r3
      have l4 := le5 4 r4
      by_cases q : (off ts 1).length = 5 ∧ (off ts 3).length = 5
      · have := two_off nd r1 r3 q.1 q.2 (e := e) (off_mem.mpr ⟨he, by (first | lia | omega), by (first | lia | omega)⟩) (fun z => (off_mem.mp z).2.2 hef)
        (first | lia | omega)
      · have := two_off nd r0 r4 (by (first | lia | omega)) (by (first | lia | omega)) (e := e) (off_mem.mpr ⟨he, by (first | lia | omega), by (first | lia | omega)⟩) (fun z => (off_mem.mp z).2.1 hen)
        (first | lia | omega)
end Mine
namespace Mine
open PySem.SeqAt Classical

/-! ### sorted lists of ties -/
noncomputable def srt (l : List Tie) : List Tie := l.mergeSort fun a b => D.le a.d b.d
theorem srt_perm (l : List Tie) : (srt l).Perm l := List.mergeSort_perm _ _
theorem srt_asc (l : List Tie) : (srt l).Pairwise fun a b => D.lt b.d a.d = false := by
  have := List.pairwise_mergeSort (le := fun a b : Tie => D.le a.d b.d) (fun a b c h1 h2 => D.le_trans h1 h2) (fun a b => by simpa using D.le_total a.d b.d) l
  exact this.imp fun h => D.not_lt.mpr h
theorem asc_uniq {a b : List Tie} (h : a.Perm b) (ha : a.Pairwise fun a b => D.lt b.d a.d = false) (hb : b.Pairwise fun a b => D.lt b.d a.d = false) : a = b :=
  List.Perm.eq_of_pairwise (fun x y _ _ h1 h2 => Tie.d_inj (D.le_antisymm (D.not_lt.mp h1) (D.not_lt.mp h2))) ha hb h
theorem srt_uniq {l us : List Tie} (h : us.Perm l) (ha : us.Pairwise fun a b => D.lt b.d a.d = false) : us = srt l := asc_uniq (h.trans (srt_perm l).symm) ha (srt_asc l)
theorem srt_eq {a b : List Tie} : srt a = srt b ↔ a.Perm b :=
  ⟨fun h => (srt_perm a).symm.trans (h ▸ srt_perm b), fun h => srt_uniq ((srt_perm a).trans h) (srt_asc a)⟩
theorem ascD_uniq {a b : List D} (h : a.Perm b) (ha : a.Pairwise fun a b => D.lt b a = false) (hb : b.Pairwise fun a b => D.lt b a = false) : a = b :=
  List.Perm.eq_of_pairwise (fun x y _ _ h1 h2 => D.le_antisymm (D.not_lt.mp h1) (D.not_lt.mp h2)) ha hb h

/-! ### the exchanges -/
theorem exch_mem {ts T : List Tie} {e : Tie × Tie} : e ∈ exch ts T ↔ e.1 ∈ ts ∧ e.1 ∉ T ∧ e.2 ∈ T ∧ Crosses T e.2 e.1 := by
  unfold exch
  rw [List.mem_flatMap]
  constructor
  · rintro q0_
    refine hide fun P_ hP_ => ?_
    obtain ⟨t, ht, h⟩ := q0_
    refine hP_ ?_
    clear hP_ P_
    split at h
    · cases h
    · rename_i q
      refine hide fun P_ hP_ => ?_
      obtain ⟨g, hg, rfl⟩ := List.mem_map.mp h
      refine hP_ ?_
      clear hP_ P_
      obtain ⟨h1, h2⟩ := List.mem_filter.mp hg
      exact ⟨ht, q, h1, by simpa using h2⟩
  · rintro q0_
    refine hide fun P_ hP_ => ?_
    obtain ⟨h1, h2, h3, h4⟩ := q0_
    refine hP_ ?_
    clear hP_ P_
    refine ⟨e.1, h1, ?_⟩
    rw [if_neg h2]
    exact List.mem_map.mpr ⟨e.2, List.mem_filter.mpr ⟨h3, by simpa using h4⟩, rfl⟩
theorem exOf_nodup {T : List Tie} {t : Tie} {gs : List Tie} (nd : gs.Nodup) : (exOf T t gs).Nodup := by
  unfold exOf
  exact nodup_map (List.filter_sublist.nodup nd) fun a _ b _ e => (Prod.mk.inj e).2
theorem exch_nodup {T : List Tie} (ndT : T.Nodup) : ∀ {ts : List Tie}, ts.Nodup → (exch ts T).Nodup
  | [], _ => by simp [exch]
  | t :: ts, nd => by
    obtain ⟨h1, h2⟩ := List.nodup_cons.mp nd
    have ih := exch_nodup ndT h2
    have e : exch (t :: ts) T = (if t ∈ T then [] else exOf T t T) ++ exch ts T := rfl
    rw [e, List.nodup_append]
    refine ⟨by split; simp; exact exOf_nodup ndT, ih, fun a ha b hb q => ?_⟩
    split at ha
    · cases ha
    · refine hide fun P_ hP_ => ?_
      obtain ⟨g, -, rfl⟩ := List.mem_map.mp ha
      refine hP_ ?_
      clear hP_ P_
      have := (exch_mem.mp hb).1
      rw [← q] at this
      exact h1 this
theorem perm_in {ts T : List Tie} (h : IsTree ts T) (nd : ts.Nodup) : (ts.filter fun t => decide (t ∈ T)).Perm T :=
  (List.perm_ext_iff_of_nodup (List.filter_sublist.nodup nd) h.nd).mpr fun a => by
    rw [List.mem_filter]
    exact ⟨fun ha => by simpa using ha.2, fun ha => ⟨h.sub a ha, by simpa using ha⟩⟩
theorem split_len (p : Tie → Bool) : ∀ L : List Tie, (L.filter p).length + (L.filter fun c => !p c).length = L.length
  | [] => rfl
  | a :: L => by
    have ih := split_len p L
    rw [List.filter_cons, List.filter_cons, List.length_cons]
    cases q : p a
    · simp only [Bool.not_false, if_true, Bool.false_eq_true, if_false, List.length_cons]; (first | lia | omega)
    · simp only [Bool.not_true, if_true, Bool.false_eq_true, if_false, List.length_cons]; (first | lia | omega)
theorem exch_three {ts T : List Tie} (h : IsTree ts T) (nd : ts.Nodup) (ok : TsOk ts) (hl : 7 ≤ ts.length) : 3 ≤ (exch ts T).length := by
  have h1 := split_len (fun t => decide (t ∈ T)) ts
  have h2 := (perm_in h nd).length_eq
  rw [h.len] at h2
  have h3 := nodup_le (met := ts.filter fun c => !decide (c ∈ T)) (L := (exch ts T).map Prod.fst) (List.filter_sublist.nodup nd) fun t ht => by
    obtain ⟨t1, t2⟩ := List.mem_filter.mp ht
    have t2 : t ∉ T := by simpa using t2
    refine hide fun P_ hP_ => ?_
    obtain ⟨g, hg, -, hc⟩ := cross_edge h ok t1 (fun x => x = t.n) (fun q => ok.ne t t1 (q.mp rfl).symm)
    refine hP_ ?_
    clear hP_ P_
    exact List.mem_map.mpr ⟨(t, g), exch_mem.mpr ⟨t1, t2, hg, hc⟩, rfl⟩
  rw [List.length_map] at h3
  (first | lia | omega)
def swp (T : List Tie) (e : Tie × Tie) : List Tie := less T e.2 ++ [e.1]
theorem swp_tree {ts T : List Tie} (h : IsTree ts T) (ok : TsOk ts) {e : Tie × Tie} (he : e ∈ exch ts T) : IsTree ts (swp T e) := by
  refine hide fun P_ hP_ => ?_
  obtain ⟨h1, h2, h3, h4⟩ := exch_mem.mp he
  refine hP_ ?_
  clear hP_ P_
  exact (h.swap ok h3 h1 h2).mpr h4
theorem swp_worth {ts T : List Tie} (h : IsTree ts T) {e : Tie × Tie} (he : e ∈ exch ts T) : worth (swp T e) = worth T + (e.1.w - e.2.w) := by
  refine hide fun P_ hP_ => ?_
  obtain ⟨h1, h2, h3, h4⟩ := exch_mem.mp he
  refine hP_ ?_
  clear hP_ P_
  unfold swp
  rw [worth_swap h.nd h3]; (first | lia | omega)
theorem swp_mem {T : List Tie} {e : Tie × Tie} {t : Tie} : t ∈ swp T e ↔ (t ∈ T ∧ t ≠ e.2) ∨ t = e.1 := by
  unfold swp; rw [List.mem_append, less_mem, List.mem_singleton]
theorem swp_inj {ts T : List Tie} {e f : Tie × Tie} (he : e ∈ exch ts T) (hf : f ∈ exch ts T) (hp : (swp T e).Perm (swp T f)) : e = f := by
  refine hide fun P_ hP_ => ?_
  obtain ⟨-, e2, e3, -⟩ := exch_mem.mp he
  refine hP_ ?_
  clear hP_ P_
  refine hide fun P_ hP_ => ?_
  obtain ⟨-, f2, f3, -⟩ := exch_mem.mp hf
  refine hP_ ?_
  clear hP_ P_
  have h1 : e.1 = f.1 := by
    have := hp.mem_iff.mp (swp_mem.mpr (.inr rfl))
    rcases swp_mem.mp this with ⟨q, -⟩ | q
    · exact absurd q e2
    · exact q
  have h2 : e.2 = f.2 := Classical.byContradiction fun z => by
    have := hp.mem_iff.mpr (swp_mem.mpr (.inl ⟨e3, z⟩))
    rcases swp_mem.mp this with ⟨-, q⟩ | q
    · exact q rfl
    · exact e2 (q ▸ e3)
  exact Prod.ext h1 h2
/-- how many ties two lists share -/
def shared (T c : List Tie) : Nat := (c.filter fun t => decide (t ∈ T)).length
theorem shared_perm {T c c' : List Tie} (h : c.Perm c') : shared T c = shared T c' := (h.filter _).length_eq
theorem shared_swp {ts T : List Tie} (h : IsTree ts T) {e : Tie × Tie} (he : e ∈ exch ts T) : shared T (swp T e) = 3 := by
  refine hide fun P_ hP_ => ?_
  obtain ⟨h1, h2, h3, h4⟩ := exch_mem.mp he
  refine hP_ ?_
  clear hP_ P_
  unfold shared swp
  rw [List.filter_append, List.length_append]
  have e1 : (less T e.2).filter (fun t => decide (t ∈ T)) = less T e.2 := List.filter_eq_self.mpr fun x hx => by simpa using (less_mem.mp hx).1
  have e2 : [e.1].filter (fun t => decide (t ∈ T)) = [] := by simp [h2]
  rw [e1, e2]
  have := less_nodup_len h.nd h3
  have := h.len
  simp; (first | lia | omega)
theorem shared_three {ts T U : List Tie} (h : IsTree ts T) (hU : IsTree ts U) (ok : TsOk ts) (h3 : shared T U = 3) : ∃ e ∈ exch ts T, U.Perm (swp T e) := by
  have s1 := split_len (fun t => decide (t ∈ T)) U
  have s2 := split_len (fun t => decide (t ∈ U)) T
  have hs : (U.filter fun c => decide (c ∈ T)).length = 3 := h3
  have p : (U.filter fun c => decide (c ∈ T)).Perm (T.filter fun c => decide (c ∈ U)) := (List.perm_ext_iff_of_nodup (List.filter_sublist.nodup hU.nd) (List.filter_sublist.nodup h.nd)).mpr fun a => by
    rw [List.mem_filter, List.mem_filter]; simp only [decide_eq_true_eq]; exact And.comm
  have hp := p.length_eq
  rw [hU.len] at s1
  rw [h.len] at s2
  obtain ⟨t, ht⟩ : ∃ t, (U.filter fun c => !decide (c ∈ T)) = [t] := List.length_eq_one_iff.mp (by (first | lia | omega))
  obtain ⟨g, hg⟩ : ∃ g, (T.filter fun c => !decide (c ∈ U)) = [g] := List.length_eq_one_iff.mp (by (first | lia | omega))
  have tm : ∀ x, x ∈ U ∧ x ∉ T ↔ x = t := fun x => by
    have : x ∈ (U.filter fun c => !decide (c ∈ T)) ↔ x ∈ [t] := by rw [ht]
    rw [List.mem_filter, List.mem_singleton] at this
    simpa using this
  have gm : ∀ x, x ∈ T ∧ x ∉ U ↔ x = g := fun x => by
    have : x ∈ (T.filter fun c => !decide (c ∈ U)) ↔ x ∈ [g] := by rw [hg]
    rw [List.mem_filter, List.mem_singleton] at this
    simpa using this
  obtain ⟨tU, tT⟩ := (tm t).mpr rfl
  obtain ⟨gT, gU⟩ := (gm g).mpr rfl
  have ndS : (swp T (t, g)).Nodup := by
    unfold swp
    rw [List.nodup_append]
    refine ⟨List.filter_sublist.nodup h.nd, by simp, fun y hy z hz => ?_⟩
    rw [List.mem_singleton.mp hz]
    rintro rfl; exact tT (less_mem.mp hy).1
  have pm : U.Perm (swp T (t, g)) := (List.perm_ext_iff_of_nodup hU.nd ndS).mpr fun x => by
    rw [swp_mem]
    constructor
    · intro hx
      by_cases q : x ∈ T
      · exact .inl ⟨q, fun z => gU (by rw [← show x = g from z]; exact hx)⟩
      · exact .inr ((tm x).mp ⟨hx, q⟩)
    · rintro (⟨q1, q2⟩ | q)
      · exact Classical.byContradiction fun z => q2 ((gm x).mp ⟨q1, z⟩)
      · rw [show x = t from q]; exact tU
  have tree : IsTree ts (swp T (t, g)) := ⟨fun x hx => hU.sub x (pm.mem_iff.mpr hx), ndS, by rw [← pm.length_eq, hU.len], hU.span.mono fun x hx => pm.mem_iff.mp hx⟩
  exact ⟨(t, g), exch_mem.mpr ⟨hU.sub t tU, tT, gT, (h.swap ok gT (hU.sub t tU) tT).mp tree⟩, pm⟩
/-- the trees one exchange away -/
theorem led_near {ts T : List Tie} (h : IsTree ts T) (nd : ts.Nodup) (ok : TsOk ts) : ((exch ts T).map fun e => srt (swp T e)).Perm (((trees ts).map srt).filter fun c => decide (shared T c = 3)) := by
  refine (List.perm_ext_iff_of_nodup ?_ ?_).mpr fun x => ?_
  · exact nodup_map (exch_nodup h.nd nd) fun a ha b hb e => swp_inj ha hb (srt_eq.mp e)
  · exact List.filter_sublist.nodup (nodup_map (trees_nodup nd) fun a ha b hb e => trees_eq nd ha hb (srt_eq.mp e))
  · rw [List.mem_filter]
    constructor
    · intro hx
      refine hide fun P_ hP_ => ?_
      obtain ⟨e, he, rfl⟩ := List.mem_map.mp hx
      refine hP_ ?_
      clear hP_ P_
      refine hide fun P_ hP_ => ?_
      obtain ⟨c, hc, p⟩ := tree_trees nd (swp_tree h ok he)
      refine hP_ ?_
      clear hP_ P_
      exact ⟨List.mem_map.mpr ⟨c, hc, srt_eq.mpr p⟩, decide_eq_true (by rw [shared_perm (srt_perm _)]; exact shared_swp h he)⟩
    · rintro ⟨hx, h3⟩
      refine hide fun P_ hP_ => ?_
      obtain ⟨c, hc, rfl⟩ := List.mem_map.mp hx
      refine hP_ ?_
      clear hP_ P_
      simp only [decide_eq_true_eq] at h3
      rw [shared_perm (srt_perm _)] at h3
      refine hide fun P_ hP_ => ?_
      obtain ⟨e, he, p⟩ := shared_three h (trees_tree nd hc) ok h3
      refine hP_ ?_
      clear hP_ P_
      exact List.mem_map.mpr ⟨e, he, (srt_eq.mpr p).symm⟩
theorem diff_nonneg {ts T : List Tie} (h : Least ts T) (ok : TsOk ts) {e : Tie × Tie} (he : e ∈ exch ts T) : 0 ≤ e.1.w - e.2.w := by
  have := h.2 _ (swp_tree h.1 ok he)
  rw [swp_worth h.1 he] at this
  (first | lia | omega)
theorem not_perm_mem {ts T U : List Tie} (h : IsTree ts T) (hU : IsTree ts U) (hp : ¬ U.Perm T) : ∃ e ∈ U, e ∉ T := Classical.byContradiction fun hc => hp ((List.perm_ext_iff_of_nodup hU.nd h.nd).mpr fun a => by
  have hUT : ∀ x ∈ U, x ∈ T := fun x hx => Classical.byContradiction fun z => hc ⟨x, hx, z⟩
  refine ⟨hUT a, fun ha => Classical.byContradiction fun z => ?_⟩
  have h1 : (a :: U).Nodup := List.nodup_cons.mpr ⟨z, hU.nd⟩
  have h2 := nodup_le (met := a :: U) (L := T) h1 fun x hx => by
    rcases List.mem_cons.mp hx with rfl | hx
    · exact ha
    · exact hUT x hx
  have := h.len
  have := hU.len
  simp at h2; (first | lia | omega))
/-- no other tree is better than the best exchange -/
theorem others_worth {ts T : List Tie} (h : Least ts T) (ok : TsOk ts) {e0 : Tie × Tie} (hm : ∀ e ∈ exch ts T, e0.1.w - e0.2.w ≤ e.1.w - e.2.w) {U : List Tie} (hU : IsTree ts U) (hp : ¬ U.Perm T) : worth T + (e0.1.w - e0.2.w) ≤ worth U := by
  refine hide fun P_ hP_ => ?_
  obtain ⟨e, he, heT⟩ := not_perm_mem h.1 hU hp
  refine hP_ ?_
  clear hP_ P_
  refine hide fun P_ hP_ => ?_
  obtain ⟨g, hg, hc, hw⟩ := second_best h hU ok he heT
  refine hP_ ?_
  clear hP_ P_
  have := hm (e, g) (exch_mem.mpr ⟨hU.sub e he, heT, hg, hc⟩)
  simp only at this
  (first | lia | omega)
end Mine
namespace Mine
open PySem.SeqAt Classical

/-! ### the web's ties -/
theorem fm5 (c : Int) : 0 ≤ c.fmod 5 ∧ c.fmod 5 < 5 := ⟨Int.fmod_nonneg_of_pos c (by decide), Int.fmod_lt_of_pos c (by decide)⟩
theorem fm4 (c : Int) : 0 ≤ c.fmod 4 ∧ c.fmod 4 < 4 := ⟨Int.fmod_nonneg_of_pos c (by decide), Int.fmod_lt_of_pos c (by decide)⟩
theorem fm5_shift {n q : Int} (hn : 0 ≤ n ∧ n < 5) (hq : 0 ≤ q ∧ q < 4) : (n + 1 + q).fmod 5 ≠ n := by
  rw [Int.fmod_eq_emod_of_nonneg _ (by decide)]
  (first | lia | omega)
theorem tieOf_ok (k : Nat) (c : Int) : ((0 ≤ (tieOf k c).n ∧ (tieOf k c).n < 5) ∧ 0 ≤ (tieOf k c).f ∧ (tieOf k c).f < 5) ∧ (tieOf k c).n ≠ (tieOf k c).f := by
  unfold tieOf
  dsimp only
  by_cases h : k < 4
  · rw [if_pos h, if_pos h]; (first | lia | omega)
  · rw [if_neg h, if_neg h]
    exact ⟨⟨fm5 c, fm5 _⟩, Ne.symm (fm5_shift (fm5 c) (fm4 _))⟩
theorem tiesFrom_mem : ∀ {cs : List Int} {k : Nat} {t : Tie}, t ∈ tiesFrom k cs → ∃ j c, k ≤ j ∧ t = tieOf j c
  | [], k, t, h => by cases h
  | c :: cs, k, t, h => by
    rcases List.mem_cons.mp h with rfl | h
    · exact ⟨k, c, Nat.le_refl _, rfl⟩
    · refine hide fun P_ hP_ => ?_
      obtain ⟨j, c', h1, h2⟩ := tiesFrom_mem h
      refine hP_ ?_
      clear hP_ P_
      exact ⟨j, c', by (first | lia | omega), h2⟩
theorem tiesOf_ok (ns : List Int) : TsOk (tiesOf ns) :=
  ⟨fun t ht => by obtain ⟨j, c, -, rfl⟩ := tiesFrom_mem ht; exact (tieOf_ok j c).1, fun t ht => by obtain ⟨j, c, -, rfl⟩ := tiesFrom_mem ht; exact (tieOf_ok j c).2⟩
theorem tieOf_k (j : Nat) (c : Int) : (tieOf j c).k = j := rfl
theorem tiesFrom_nodup : ∀ (cs : List Int) (k : Nat), (tiesFrom k cs).Nodup
  | [], _ => by simp [tiesFrom]
  | c :: cs, k => by
    rw [tiesFrom, List.nodup_cons]
    refine ⟨fun h => ?_, tiesFrom_nodup cs (k + 1)⟩
    refine hide fun P_ hP_ => ?_
    obtain ⟨j, c', h1, h2⟩ := tiesFrom_mem h
    refine hP_ ?_
    clear hP_ P_
    have := congrArg Tie.k h2
    rw [tieOf_k, tieOf_k] at this
    (first | lia | omega)
theorem tiesOf_nodup (ns : List Int) : (tiesOf ns).Nodup := tiesFrom_nodup _ _
theorem tiesOf_length (ns : List Int) : (tiesOf ns).length = 7 ∨ (tiesOf ns).length = 8 := by
  unfold tiesOf
  rw [tiesFrom_length, cellsOf_length]; (first | lia | omega)
theorem tiesOf_path (ns : List Int) : ∃ a b c d rest, tiesOf ns = a :: b :: c :: d :: rest ∧ (a.n = 0 ∧ a.f = 1) ∧ (b.n = 1 ∧ b.f = 2) ∧ (c.n = 2 ∧ c.f = 3) ∧ (d.n = 3 ∧ d.f = 4) := by
  have h := cellsOf_length ns
  unfold tiesOf
  match cellsOf ns, h with
  | c0 :: c1 :: c2 :: c3 :: cs, _ => exact ⟨_, _, _, _, _, rfl, ⟨rfl, rfl⟩, ⟨rfl, rfl⟩, ⟨rfl, rfl⟩, ⟨rfl, rfl⟩⟩
  | [], h => simp at h; (first | lia | omega)
  | [_], h => simp at h; (first | lia | omega)
  | [_, _], h => simp at h; (first | lia | omega)
  | [_, _, _], h => simp at h; (first | lia | omega)
theorem path_span {a b c d : Tie} {P : List Tie} (ha : a ∈ P) (hb : b ∈ P) (hc : c ∈ P) (hd : d ∈ P) (ea : a.n = 0 ∧ a.f = 1) (eb : b.n = 1 ∧ b.f = 2) (ec : c.n = 2 ∧ c.f = 3) (ed : d.n = 3 ∧ d.f = 4) : Span P := fun x h0 h5 => by
  have c1 : Conn P 0 1 := by have := Conn.tie ha; rwa [ea.1, ea.2] at this
  have c2 : Conn P 1 2 := by have := Conn.tie hb; rwa [eb.1, eb.2] at this
  have c3 : Conn P 2 3 := by have := Conn.tie hc; rwa [ec.1, ec.2] at this
  have c4 : Conn P 3 4 := by have := Conn.tie hd; rwa [ed.1, ed.2] at this
  have hx : x = 0 ∨ x = 1 ∨ x = 2 ∨ x = 3 ∨ x = 4 := by (first | lia | omega)
  rcases hx with rfl | rfl | rfl | rfl | rfl
  · exact .refl _
  · exact c1
  · exact c1.trans c2
  · exact (c1.trans c2).trans c3
  · exact ((c1.trans c2).trans c3).trans c4
theorem tiesOf_tree (ns : List Int) : ∃ P, IsTree (tiesOf ns) P := by
  refine hide fun P_ hP_ => ?_
  obtain ⟨a, b, c, d, rest, e, ea, eb, ec, ed⟩ := tiesOf_path ns
  refine hP_ ?_
  clear hP_ P_
  have nd := tiesOf_nodup ns
  rw [e] at nd ⊢
  refine ⟨[a, b, c, d], fun t ht => ?_, ?_, rfl, path_span (by simp) (by simp) (by simp) (by simp) ea eb ec ed⟩
  · simp only [List.mem_cons, List.not_mem_nil, or_false] at ht
    rcases ht with rfl | rfl | rfl | rfl <;> simp
  · exact (show [a, b, c, d].Sublist (a :: b :: c :: d :: rest) from by simp).nodup nd
theorem tiesOf_span (ns : List Int) : Span (tiesOf ns) := by
  obtain ⟨P, hP⟩ := tiesOf_tree ns
  exact hP.span.mono hP.sub
theorem tiesOf_few (ns : List Int) : (trees (tiesOf ns)).length < 64 := by
  refine hide fun P_ hP_ => ?_
  obtain ⟨a, b, c, d, rest, e, ea, -⟩ := tiesOf_path ns
  refine hP_ ?_
  clear hP_ P_
  exact trees_count (tiesOf_ok ns) (tiesOf_nodup ns) (tiesOf_length ns) (e := a) (by rw [e]; exact .head _) ea.1 ea.2
theorem tiesOf_prim (ns : List Int) {b : Int} (hb : 0 ≤ b ∧ b < 5) {T : List Tie} {r : List Int} (g : GR (tiesOf ns) b [] T r []) : Least (tiesOf ns) T := by
  obtain ⟨P, hP⟩ := tiesOf_tree ns
  exact prim_least (tiesOf_ok ns) hb (tiesOf_span ns) (least_ex (tiesOf_nodup ns) hP) g
end Mine
namespace Mine
open PySem.SeqAt Classical

/-! ### the two smallest, kept in a heap of two -/
def pr (a i : Int) : D := .tup [.int a, .int i]
theorem pr_has (a i : Int) : Has (.tup [.int, .int]) (pr a i) := by simp [pr, Has, Hass]
theorem pr_lt {a i b j : Int} (h : D.lt (pr a i) (pr b j) = false) : b ≤ a := by
  unfold pr at h
  rw [D.lt, Ds.lt] at h
  split at h
  · rename_i e; cases e; exact Int.le_refl _
  · simp [D.lt] at h; exact h
def Two2 (a : Int) (l : List D) (ws : List Int) : Prop := ∃ i b j rest, l = [pr a i, pr b j] ∧ HeapFrom gtD l 0 ∧ (a :: b :: rest).Perm ws ∧ b ≤ a ∧ ∀ r ∈ rest, a ≤ r
theorem pr_heap {a i b j : Int} (h : HeapFrom gtD [pr a i, pr b j] 0) : b ≤ a := by
  have := heap_root TO.gtD h 1 (by simp)
  exact pr_lt this
/-- a heap made of two pairs -/
theorem two_of {l : List D} {a i b j : Int} {rest ws : List Int} (hh : HeapFrom gtD l 0) (hp : l.Perm [pr a i, pr b j]) (hw : (a :: b :: rest).Perm ws) (ha : ∀ r ∈ rest, a ≤ r) (hb : ∀ r ∈ rest, b ≤ r) : ∃ a', Two2 a' l ws := by
  rcases ksk_perm2 hp with rfl | rfl
  · exact ⟨a, i, b, j, rest, rfl, hh, hw, pr_heap hh, ha⟩
  · exact ⟨b, j, a, i, rest, rfl, hh, (List.Perm.swap _ _ _).trans hw, pr_heap hh, hb⟩
theorem two_init (x y : Int) : ∃ a, Two2 a (hfy gtD (([pr x 0, pr y 1] : List D).length / 2) [pr x 0, pr y 1]) [x, y] := by
  obtain ⟨h1, h2⟩ := heapify_spec TO.gtD [pr x 0, pr y 1]
  exact two_of (rest := []) h1 h2 (.refl _) (by simp) (by simp)
theorem two_rep {a x k : Int} {l : List D} {ws : List Int} (h : Two2 a l ws) (hx : x < a) : ∃ a', Two2 a' (hrep gtD l (pr x k)) (ws ++ [x]) := by
  refine hide fun P_ hP_ => ?_
  obtain ⟨i, b, j, rest, rfl, hh, hp, hba, hr⟩ := h
  refine hP_ ?_
  clear hP_ P_
  obtain ⟨h1, h2⟩ := hrep_spec TO.gtD (x := pr x k) hh (by simp)
  refine two_of (a := x) (i := k) (b := b) (j := j) (rest := a :: rest) h1 h2 ?_ ?_ ?_
  · have e1 : (x :: b :: a :: rest).Perm (x :: a :: b :: rest) := (List.Perm.swap _ _ _).cons x
    exact e1.trans ((hp.cons x).trans (List.perm_append_comm (l₁ := [x])))
  · intro r hr'
    rcases List.mem_cons.mp hr' with rfl | hr'
    · (first | lia | omega)
    · have := hr r hr'; (first | lia | omega)
  · intro r hr'
    rcases List.mem_cons.mp hr' with rfl | hr'
    · (first | lia | omega)
    · have := hr r hr'; (first | lia | omega)
theorem two_skip {a x : Int} {l : List D} {ws : List Int} (h : Two2 a l ws) (hx : a ≤ x) : Two2 a l (ws ++ [x]) := by
  refine hide fun P_ hP_ => ?_
  obtain ⟨i, b, j, rest, rfl, hh, hp, hba, hr⟩ := h
  refine hP_ ?_
  clear hP_ P_
  refine ⟨i, b, j, rest ++ [x], rfl, hh, ?_, hba, ?_⟩
  · have := hp.append_right [x]
    simpa using this
  · intro r hr'
    rcases List.mem_append.mp hr' with hr' | hr'
    · exact hr r hr'
    · rcases List.mem_cons.mp hr' with rfl | hr'
      · exact hx
      · cases hr'
theorem two_end {a : Int} {l es : List D} {ws : List Int} (h : Two2 a l ws) (hp : es.Perm l) (hs : es.Pairwise fun a b => D.lt b a = false) : ∃ p i q j rest, es = [pr p i, pr q j] ∧ p ≤ q ∧ (p :: q :: rest).Perm ws ∧ ∀ r ∈ rest, q ≤ r := by
  refine hide fun P_ hP_ => ?_
  obtain ⟨i, b, j, rest, rfl, hh, hw, hba, hr⟩ := h
  refine hP_ ?_
  clear hP_ P_
  rcases ksk_perm2 hp with rfl | rfl
  · have h1 : a ≤ b := pr_lt ((List.pairwise_cons.mp hs).1 _ (.head _))
    exact ⟨a, i, b, j, rest, rfl, h1, hw, fun r hr' => by have := hr r hr'; (first | lia | omega)⟩
  · exact ⟨b, j, a, i, rest, rfl, hba, (List.Perm.swap _ _ _).trans hw, hr⟩
theorem two_len {a : Int} {l : List D} {ws : List Int} (h : Two2 a l ws) : l.length = 2 := by
  obtain ⟨i, b, j, rest, rfl, -⟩ := h; rfl
theorem two_has {a : Int} {l : List D} {ws : List Int} (h : Two2 a l ws) : ∀ d ∈ l, Has (.tup [.int, .int]) d := by
  refine hide fun P_ hP_ => ?_
  obtain ⟨i, b, j, rest, rfl, -⟩ := h
  refine hP_ ?_
  clear hP_ P_
  intro d hd
  rcases List.mem_cons.mp hd with rfl | hd
  · exact pr_has _ _
  · rcases List.mem_cons.mp hd with rfl | hd
    · exact pr_has _ _
    · cases hd
theorem two_top {a : Int} {l : List D} {ws : List Int} (h : Two2 a l ws) : ∃ i, l.getD 0 .none = pr a i := by
  obtain ⟨i, b, j, rest, rfl, -⟩ := h; exact ⟨i, rfl⟩
end Mine
namespace Mine
open PySem.SeqAt Classical

/-! ### zip(range(n), an iterator of a list) -/
section
variable {prog : Program} {w : World} {A : Around} {E : Value → Shared → Prop} {s : Shared}

theorem nextOf_range_item {it : Addr} {x left step : Int} {Q : Value → Shared → Prop} (hit : IsRangeIter s.heap it x left step) (hleft : 0 < left)
    (hQ : ∀ h', IsRangeIter h' it (x + step) (left - 1) step → Heap.SameBut it s.heap h' → Q (.int x s.toks) { s with heap := h', toks := s.toks + 1 }) :
    wpAny (model prog w) A (Builtin.SmallTypes.nextOf (.ref it)) Q E s := by
  have hT : s.TypeIs (.ref it) "range_iterator" := ⟨_, hit, rfl⟩
  unfold Builtin.SmallTypes.nextOf
  refine wpAny_bind (wpAny_callSpecial?_slot (name := Str.ofString "__next__") hT F.slot_range_iterator_next
    (call_meets F.slot_range_iterator_next hT F.entry_range_iterator_next (F.args_range_iterator_next_1 _) (AutoRange.range_iterator___next___range_iterator_1 it x left step (by (first | lia | omega))) ⟨hit, ?_⟩))
  exact wpAny_pure (hQ _ (Heap.get?_update_self _ (Heap.get?_update_self _ hit rfl) rfl) ((Heap.SameBut.update ..).trans (Heap.SameBut.update ..)))

theorem nextOf_range_end {it : Addr} {x left step : Int} {Q : Value → Shared → Prop} (hh : A.handled = none) (hit : IsRangeIter s.heap it x left step) (hleft : left ≤ 0)
    (hE : ∀ h' e, Heap.ExtBut it s.heap h' → (∃ o, h'.get? e = some o ∧ o.cls = .type "StopIteration") → E (.ref e) { s with heap := h' }) :
    wpAny (model prog w) A (Builtin.SmallTypes.nextOf (.ref it)) Q E s := by
  have hT : s.TypeIs (.ref it) "range_iterator" := ⟨_, hit, rfl⟩
  unfold Builtin.SmallTypes.nextOf
  refine wpAny_bind (wpAny_callSpecial?_slot (name := Str.ofString "__next__") hT F.slot_range_iterator_next
    (wpAny_call_entry F.slot_range_iterator_next hT F.entry_range_iterator_next ?_ (F.args_range_iterator_next_1 _)))
  show wpAny _ _ (field (.ref it) 0 >>= _) _ _ s
  refine wpAny_bind (wpAny_field hit rfl (x := rawInt x) rfl ?_)
  show wpAny _ _ (field (.ref it) 1 >>= _) _ _ s
  refine wpAny_bind (wpAny_field hit rfl (x := rawInt left) rfl ?_)
  show wpAny _ _ (field (.ref it) 2 >>= _) _ _ s
  refine wpAny_bind (wpAny_field hit rfl (x := rawInt step) rfl ?_)
  show wpAny _ _ (if left ≤ 0 then _ else _) _ _ s
  rw [if_pos hleft]
  refine wpAny_bind (wpAny_rule ?_)
  refine wpAny_bind ?_
  show wpAny _ _ (newExc (.type "StopIteration") [] >>= _) _ _ _
  refine wpAny_bind ?_
  simp only [newExc, newTuple]
  refine wpAny_bind (wpAny_newObj_type ?_ (by size_fits))
  refine wpAny_bind (m := firstArgMember _ _) (wpAny_of_eq (a := Value.none) (by first | rfl | (simp only [firstArgMember]; rfl)) ?_)
  refine wpAny_newObj_type ?_ (by size_fits)
  simp only [raiseNew]
  refine wpAny_bind (wpAny_handled ?_)
  first | rw [show A.in1.handled = none from hh] | rw [hh]
  refine wpAny_bind (wpAny_pure (wpAny_throw ?_))
  exact hE _ _ (((Heap.ExtBut.refl it s.heap).push _).push _) ⟨_, Heap.get?_push_size _ rfl, rfl⟩

/-- the objects of zip(range, iterator) are apart from each other -/
structure ZA (z TI TO r I a : Addr) : Prop where
  TIz : TI ≠ z
  TOz : TO ≠ z
  rz : r ≠ z
  Iz : I ≠ z
  TITO : TI ≠ TO
  TIr : TI ≠ r
  TII : TI ≠ I
  TOr : TO ≠ r
  TOI : TO ≠ I
  rI : r ≠ I
  az : a ≠ z
  aTO : a ≠ TO
  ar : a ≠ r
  aI : a ≠ I

theorem zipr_item {z TI TO r I a : Addr} {k : Nat} {x l : Int} {ys : Array Value} {y u v : Value} {Q : Option Value → Shared → Prop} (D : ZA z TI TO r I a)
    (hz : IsZip s.heap z TI TO .none) (hTI : IsPair s.heap TI (.ref r) (.ref I)) (hTO : IsPair s.heap TO u v)
    (h1 : IsRangeIter s.heap r x l 1) (hl : 0 < l) (h2 : s.heap.IsListIter I a k) (ha : s.heap.IsList a ys) (hy : ys[k]? = some y)
    (hQ : ∀ h', IsZip h' z TI TO (rawInt s.heap.objs.size) → IsPair h' TO (.int x s.toks) y → IsRangeIter h' r (x + 1) (l - 1) 1 → h'.IsListIter I a (k + 1) → IsPair h' s.heap.objs.size (.int x s.toks) y →
      (∀ c o, c ≠ z → c ≠ TO → c ≠ r → c ≠ I → s.heap.get? c = some o → h'.get? c = some o) → Q (some (.ref s.heap.objs.size)) { s with heap := h', toks := s.toks + 1 }) :
    wpAny (model prog w) A (pyNext (.ref z)) Q E s := by
  have hT : s.TypeIs (.ref z) "zip" := ⟨_, hz, rfl⟩
  unfold pyNext
  refine wpAny_bind (wpAny_attempt (wpAny_callSpecial?_slot (name := Str.ofString "__next__") hT F.slot_zip_next
    (wpAny_call_entry F.slot_zip_next hT F.entry_zip_next ?_ (F.args_zip_next_1 _))))
  show wpAny _ _ (field (.ref z) 2 >>= _) _ _ _
  refine wpAny_bind (wpAny_field hz rfl (x := .bool false) rfl ?_)
  show wpAny _ _ (field (.ref z) 3 >>= _) _ _ _
  refine wpAny_bind (wpAny_field hz rfl (x := .ref TI) rfl ?_)
  refine wpAny_bind (wpAny_seqItems hTI rfl ?_)
  show wpAny _ _ (Builtin.SmallTypes.ownedTupleIsFree (.ref z) >>= _) _ _ _
  refine wpAny_bind ?_
  unfold Builtin.SmallTypes.ownedTupleIsFree
  refine wpAny_bind (wpAny_field hz rfl (x := .none) rfl (wpAny_pure ?_))
  simp only [if_true]
  refine wpAny_bind (wpAny_rule ?_)
  refine wpAny_bind (wpAny_field hz rfl (x := .ref TO) rfl ?_)
  refine wpAny_bind (wpAny_setField_rec hz (by simp) fun h₁ hz₁ hs₁ => ?_)
  replace hz₁ : IsZip h₁ z TI TO .ellipsis := hz₁
  refine wpAny_bind ?_
  simp only [List.zipIdx_cons, List.zipIdx_nil, List.forIn_cons, List.forIn_nil]
  refine wpAny_bind (wpAny_bind (wpAny_onRaise ?_))
  show wpAny _ _ (Builtin.SmallTypes.nextOf (.ref r) >>= _) _ _ _
  have h1a : IsRangeIter h₁ r x l 1 := (hs₁.2 _ D.rz).trans h1
  refine wpAny_bind (nextOf_range_item (s := { s with heap := h₁ }) h1a hl fun h₂ h1b hs₂ => wpAny_pure ?_)
  have hTO₂ : IsPair h₂ TO u v := hs₂.extBut _ _ D.TOr (hs₁.extBut _ _ D.TOz hTO)
  refine wpAny_bind (wpAny_seqItems hTO₂ rfl ?_)
  refine wpAny_bind (wpAny_updateSeq_pair hTO₂ fun h₃ hTO₃ hs₃ => ?_)
  replace hTO₃ : IsPair h₃ TO (.int x s.toks) v := hTO₃
  refine wpAny_bind (wpAny_letGo (wpAny_pure ?_))
  refine wpAny_bind (wpAny_bind (wpAny_onRaise ?_))
  show wpAny _ _ (Builtin.SmallTypes.nextOf (.ref I) >>= _) _ _ _
  refine wpAny_bind (wpAny_nextOf_list_item (((h2.extBut hs₁.extBut D.Iz).extBut hs₂.extBut D.rI.symm).extBut hs₃.extBut D.TOI.symm)
    (((ha.extBut hs₁.extBut D.az).extBut hs₂.extBut D.ar).extBut hs₃.extBut D.aTO) hy fun h₄ h2₄ hs₄ => wpAny_pure ?_)
  have hTO₄ : IsPair h₄ TO (.int x s.toks) v := hs₄.extBut _ _ D.TOI hTO₃
  refine wpAny_bind (wpAny_seqItems hTO₄ rfl ?_)
  refine wpAny_bind (wpAny_updateSeq_pair hTO₄ fun h₅ hTO₅ hs₅ => ?_)
  replace hTO₅ : IsPair h₅ TO (.int x s.toks) y := hTO₅
  refine wpAny_bind (wpAny_letGo (wpAny_pure (wpAny_pure ?_)))
  refine wpAny_bind (wpAny_seqItems hTO₅ rfl ?_)
  refine wpAny_bind (wpAny_newTuple ?_)
  have hsz : h₅.objs.size = s.heap.objs.size := by rw [hs₅.1, hs₄.1, hs₃.1, hs₂.1, hs₁.1]
  have hz₅ : IsZip h₅ z TI TO .ellipsis := hs₅.extBut _ _ D.TOz.symm (hs₄.extBut _ _ D.Iz.symm (hs₃.extBut _ _ D.TOz.symm (hs₂.extBut _ _ D.rz.symm hz₁)))
  have hk₅ : ∀ c o, c ≠ z → c ≠ TO → c ≠ r → c ≠ I → s.heap.get? c = some o → h₅.get? c = some o := fun c o c1 c2 c3 c4 e =>
    hs₅.extBut _ _ c2 (hs₄.extBut _ _ c4 (hs₃.extBut _ _ c2 (hs₂.extBut _ _ c3 (hs₁.extBut _ _ c1 e))))
  have h1₅ : IsRangeIter h₅ r (x + 1) (l - 1) 1 := hs₅.extBut _ _ D.TOr.symm (hs₄.extBut _ _ D.rI (hs₃.extBut _ _ D.TOr.symm h1b))
  have h2₅ : h₅.IsListIter I a (k + 1) := h2₄.extBut hs₅.extBut D.TOI.symm
  have hzlt : z < h₅.objs.size := Heap.lt_size hz₅
  show wpAny _ _ (Builtin.SmallTypes.ownedTupleHandOut (.ref z) (.ref h₅.objs.size) >>= _) _ _ _
  refine wpAny_bind ?_
  unfold Builtin.SmallTypes.ownedTupleHandOut
  have hz₆ : IsZip (h₅.push { cls := .type "tuple", data := .seq #[.int x s.toks, y] }) z TI TO .ellipsis := Heap.get?_push_of_some _ hz₅
  refine wpAny_bind (wpAny_setField_rec hz₆ (by simp) fun h₇ hz₇ hs₇ => ?_)
  replace hz₇ : IsZip h₇ z TI TO (rawInt h₅.objs.size) := hz₇
  refine wpAny_setField_rec hz₇ (by simp) fun h₈ hz₈ hs₈ => ?_
  replace hz₈ : IsZip h₈ z TI TO (rawInt h₅.objs.size) := hz₈
  have up : ∀ c o, c ≠ z → h₅.get? c = some o → h₈.get? c = some o := fun c o c1 e => hs₈.extBut _ _ c1 (hs₇.extBut _ _ c1 (Heap.get?_push_of_some _ e))
  have hT₈ : IsPair h₈ h₅.objs.size (.int x s.toks) y := hs₈.extBut _ _ (Nat.ne_of_gt hzlt) (hs₇.extBut _ _ (Nat.ne_of_gt hzlt) (Heap.get?_push_size _ rfl))
  rw [hsz] at hz₈ hT₈
  refine wpAny_pure ⟨_, rfl, ?_⟩
  refine wpAny_pure ?_
  show Q (some (.ref h₅.objs.size)) _
  rw [hsz]
  exact hQ h₈ hz₈ (up _ _ D.TOz hTO₅) (up _ _ D.rz h1₅) (h2₅.at fun o e => up _ o D.Iz e) hT₈ fun c o c1 c2 c3 c4 e => up c o c1 (hk₅ c o c1 c2 c3 c4 e)

theorem zipr_end {z TI TO r I a : Addr} {x l : Int} {u v : Value} {Q : Option Value → Shared → Prop} (hh : A.handled = none) (D : ZA z TI TO r I a)
    (hz : IsZip s.heap z TI TO .none) (hTI : IsPair s.heap TI (.ref r) (.ref I)) (hTO : IsPair s.heap TO u v)
    (h1 : IsRangeIter s.heap r x l 1) (hl : l ≤ 0)
    (hQ : ∀ h', (∀ c o, c ≠ z → c ≠ r → s.heap.get? c = some o → h'.get? c = some o) → Q none { s with heap := h' }) :
    wpAny (model prog w) A (pyNext (.ref z)) Q E s := by
  have hT : s.TypeIs (.ref z) "zip" := ⟨_, hz, rfl⟩
  unfold pyNext
  refine wpAny_bind (wpAny_attempt (wpAny_callSpecial?_slot (name := Str.ofString "__next__") hT F.slot_zip_next
    (wpAny_call_entry F.slot_zip_next hT F.entry_zip_next ?_ (F.args_zip_next_1 _))))
  show wpAny _ _ (field (.ref z) 2 >>= _) _ _ _
  refine wpAny_bind (wpAny_field hz rfl (x := .bool false) rfl ?_)
  show wpAny _ _ (field (.ref z) 3 >>= _) _ _ _
  refine wpAny_bind (wpAny_field hz rfl (x := .ref TI) rfl ?_)
  refine wpAny_bind (wpAny_seqItems hTI rfl ?_)
  show wpAny _ _ (Builtin.SmallTypes.ownedTupleIsFree (.ref z) >>= _) _ _ _
  refine wpAny_bind ?_
  unfold Builtin.SmallTypes.ownedTupleIsFree
  refine wpAny_bind (wpAny_field hz rfl (x := .none) rfl (wpAny_pure ?_))
  simp only [if_true]
  refine wpAny_bind (wpAny_rule ?_)
  refine wpAny_bind (wpAny_field hz rfl (x := .ref TO) rfl ?_)
  refine wpAny_bind (wpAny_setField_rec hz (by simp) fun h₁ hz₁ hs₁ => ?_)
  replace hz₁ : IsZip h₁ z TI TO .ellipsis := hz₁
  refine wpAny_bind ?_
  simp only [List.zipIdx_cons, List.zipIdx_nil, List.forIn_cons, List.forIn_nil]
  refine wpAny_bind (wpAny_bind (wpAny_onRaise ?_))
  show wpAny _ _ (Builtin.SmallTypes.nextOf (.ref r) >>= _) _ _ _
  have h1a : IsRangeIter h₁ r x l 1 := (hs₁.2 _ D.rz).trans h1
  refine wpAny_bind (nextOf_range_end (s := { s with heap := h₁ }) hh h1a hl fun h₂ e hs₂ he => ?_)
  refine hide fun P_ hP_ => ?_
  obtain ⟨oe, hoe, hce⟩ := he
  refine hP_ ?_
  clear hP_ P_
  have hz₂ : IsZip h₂ z TI TO .ellipsis := hs₂ _ _ D.rz.symm hz₁
  have hez : e ≠ z := fun x => by subst x; rw [hz₂] at hoe; cases hoe; simp at hce
  refine wpAny_setField_rec hz₂ (by simp) fun h₃ _ hs₃ => ?_
  refine wpAny_bind (wpAny_isInstance (T := "StopIteration") (b := true) ⟨oe, hs₃.extBut _ _ hez hoe, hce⟩ isSubtype_stop ?_)
  exact wpAny_pure (hQ _ fun c o c1 c3 x => hs₃.extBut _ _ c1 (hs₂ _ _ c3 (hs₁.extBut _ _ c1 x)))

abbrev zrH1 (h : Heap) (n : Nat) : Heap := h.push { cls := .type "range_iterator", data := .fields #[rawInt 0, rawInt (Builtin.Range.rangeSize 0 n 1), rawInt 1] }
abbrev zrH2 (h : Heap) (n : Nat) (I : Addr) : Heap := (zrH1 h n).push { cls := .type "tuple", data := .seq #[.ref h.objs.size, .ref I] }
abbrev zrH3 (h : Heap) (n : Nat) (I : Addr) : Heap := (zrH2 h n I).push { cls := .type "tuple", data := .seq #[.none, .none] }
abbrev zrH4 (h : Heap) (n : Nat) (I : Addr) : Heap := (zrH3 h n I).push { cls := .type "zip", data := .fields #[.none, .bool false, .bool false, .ref (zrH1 h n).objs.size, .ref (zrH2 h n I).objs.size] }
theorem meets_zipr (r I a : Addr) (k n : Nat) (t u v : Tok) (hsm : Builtin.Range.small 0 n 1 = true) :
    Meets (Builtin.«zip.__new__» ⟨[.type "zip", .ref r, .ref I], []⟩) (fun _ R s => IsRange s.heap r 0 n 1 t u v ∧ s.heap.IsListIter I a k ∧
      R (.ok (.ret (.ref (zrH3 s.heap n I).objs.size))) { s with heap := zrH4 s.heap n I }) :=
  .of_wp fun prog w A R s h => by
    obtain ⟨hp, g, d, tk, os⟩ := s; obtain ⟨hr, hI, h⟩ := h
    have hsub := sub_zip
    have hR : IsRange (Shared.heap ⟨hp, g, d, tk, os⟩) r 0 n 1 t u v := hr
    have hI2 : Heap.IsListIter (Shared.heap ⟨hp.push { cls := .type "range_iterator", data := .fields #[rawInt 0, rawInt (Builtin.Range.rangeSize 0 n 1), rawInt 1] }, g, d, tk, os⟩) I a k := hI.at fun o e => Heap.get?_push_of_some _ e
    wp_walk using wpAny_pyIter_range hR hsm, wpAny_pyIter_listiter hI2
    exact ⟨_, rfl, h⟩
end
end Mine
namespace Mine
open PySem.SeqAt Classical

section
variable {prog : Program} {w : World} {A : Around} {E : Value → Shared → Prop} {s : Shared}
theorem call_zipr {r I a : Addr} {k n : Nat} {t u v : Tok} {Q : Value → Shared → Prop} (hr : IsRange s.heap r 0 n 1 t u v) (hI : s.heap.IsListIter I a k) (hn : n ≤ 1000000)
    (h : ∀ h', IsZip h' (s.heap.objs.size + 3) (s.heap.objs.size + 1) (s.heap.objs.size + 2) .none → IsPair h' (s.heap.objs.size + 1) (.ref s.heap.objs.size) (.ref I) →
      IsPair h' (s.heap.objs.size + 2) .none .none → IsRangeIter h' s.heap.objs.size 0 n 1 →
      (∀ c o, s.heap.get? c = some o → h'.get? c = some o) → Q (.ref (s.heap.objs.size + 3)) { s with heap := h' }) :
    wpAny (model prog w) A (call (.type "zip") [.ref r, .ref I]) Q E s := by
  have e1 : Builtin.Range.rangeSize 0 n 1 = n := by
    rw [rangeSize_one]; split <;> (first | lia | omega)
  have hsm : Builtin.Range.small 0 n 1 = true := by
    unfold Builtin.Range.small
    rw [e1]
    unfold Builtin.Range.rangeFitsLong
    simp
    (first | lia | omega)
  refine callType_new F.called_zip (by decide) (F.typeCall_zip_2 _ _) (F.newCall_zip_2 _ _) (fun obj => F.args_object_init_3 obj _ _) F.entry_zip_new
    (meets_zipr r I a k n t u v hsm) ⟨hr, hI, ?_⟩
  have z1 : (zrH1 s.heap n).objs.size = s.heap.objs.size + 1 := Heap.size_push ..
  have z2 : (zrH2 s.heap n I).objs.size = s.heap.objs.size + 2 := by rw [Heap.size_push, z1]
  have z3 : (zrH3 s.heap n I).objs.size = s.heap.objs.size + 3 := by rw [Heap.size_push, z2]
  have g4 : (zrH4 s.heap n I).get? (zrH3 s.heap n I).objs.size = some _ := Heap.get?_push_size _ rfl
  have g3 : (zrH4 s.heap n I).get? (zrH2 s.heap n I).objs.size = some _ := Heap.get?_push_of_some _ (Heap.get?_push_size _ rfl)
  have g2 : (zrH4 s.heap n I).get? (zrH1 s.heap n).objs.size = some _ := Heap.get?_push_of_some _ (Heap.get?_push_of_some _ (Heap.get?_push_size _ rfl))
  have g1 : (zrH4 s.heap n I).get? s.heap.objs.size = some _ := Heap.get?_push_of_some _ (Heap.get?_push_of_some _ (Heap.get?_push_of_some _ (Heap.get?_push_size _ rfl)))
  show _ ∧ _
  rw [z3, z1, z2] at g4
  rw [z2] at g3
  rw [z1] at g2
  rw [e1] at g1
  rw [z3]
  exact ⟨⟨_, g4, rfl⟩, h _ g4 g2 g3 g1 fun c o x => Heap.get?_push_of_some _ (Heap.get?_push_of_some _ (Heap.get?_push_of_some _ (Heap.get?_push_of_some _ x)))⟩
end

/-- a walk over tuples, with what is so at its end -/
structure WalkP (prog : Program) (w : World) (A : Around) (Zf : Zone) (I : Addr) (H : List Addr) (n : Nat) (P : Nat → Array Value → Prop) (Sw : Nat → Heap → Prop) (Mid : Nat → Addr → Heap → Prop) (En : Heap → Prop) : Prop where
  frame : ∀ i h h', Sw i h → (∀ b ∈ H, ∀ o, h.get? b = some o → h'.get? b = some o) → (∀ b o, Zf b = some o → h'.get? b = some o) → Sw i h'
  item : ∀ i (s : Shared) (Q : Option Value → Shared → Prop) (E : Value → Shared → Prop), i < n → Sw i s.heap → (∀ b o, Zf b = some o → s.heap.get? b = some o) →
    (∀ T vals h' tk, P i vals → h'.IsTuple T vals → T ∉ H → Mid i T h' → (∀ b o, b ∉ H → s.heap.get? b = some o → h'.get? b = some o) → Q (some (.ref T)) { s with heap := h', toks := tk }) →
    wpAny (model prog w) A (pyNext (.ref I)) Q E s
  go : ∀ (elts : List Expr) (k : Nat) (pos : Pos) i T (s : Shared) (Q : Unit → Shared → Prop) (E : Value → Shared → Prop), Mid i T s.heap → (∀ b o, Zf b = some o → s.heap.get? b = some o) →
    (∀ h', Sw (i + 1) h' → (∀ b o, b ∉ H → s.heap.get? b = some o → h'.get? b = some o) → Q () { s with heap := h' }) →
    wpAny (model prog w) A (letOwnedTupleGo (.Tuple elts k pos) (.ref I) (.ref T)) Q E s
  done : ∀ (s : Shared) (Q : Option Value → Shared → Prop) (E : Value → Shared → Prop), Sw n s.heap → (∀ b o, Zf b = some o → s.heap.get? b = some o) →
    (∀ h' tk, En h' → (∀ b o, b ∉ H → s.heap.get? b = some o → h'.get? b = some o) → Q none { s with heap := h', toks := tk }) → wpAny (model prog w) A (pyNext (.ref I)) Q E s
  self : ∀ i (s : Shared) (Q : Value → Shared → Prop) (E : Value → Shared → Prop), Sw i s.heap → Q (.ref I) s → wpAny (model prog w) A (pyIter (.ref I)) Q E s
  live : ∀ i h, Sw i h → ∀ b ∈ H, ∃ o, h.get? b = some o

section
variable {c : Cx} {Z Y : Zone} {ρ : Vars} {σ : Sto} {s : Shared} {K : V → Sto → Prop} {pos p1 p2 : Pos}

/-- into the comprehension's frame, with no name bound yet -/
theorem St.kid0 (S : St c Z Y ρ σ s) (hk : c.Ok) {scope : Scope} {cl : List (Str × Addr)} {C : Addr} (hc : Clos c scope cl) {H : List Addr} {m : Str → Option Value}
    (hns : s.heap.Ns C m) (hA : Apart c Z Y σ C) (hH : ∀ a ∈ H, Apart c Z Y σ a) (hCH : C ∉ H) :
    St (cc c scope cl C) Z (holdY H (St.lend c Y s) s) (seen cl ρ) σ s := by
  have lendC : St.lend c Y s C = none := by
    unfold St.lend
    rw [if_neg (by rintro (h | ⟨x, h⟩); exact hA.o h; exact hA.c x h)]
    exact hA.y
  refine ⟨S.lendG.hold fun a ha => ⟨(hH a ha).z, (hH a ha).s⟩, ⟨m, hns, fun y w e hy => ?_⟩, fun y w e hy => ?_, fun y a e => ?_, fun a ha => ?_⟩
  · unfold seen at e
    split at e
    · rename_i h; exact absurd hy (kid_kind (hc.kid _ h))
    · cases e
  · unfold seen at e
    split at e
    · rename_i h
      obtain ⟨a, ha⟩ := Option.isSome_iff_exists.mp h
      refine hide fun P_ hP_ => ?_
      obtain ⟨a', u', e1, e2, e3⟩ := S.cell y w e (hc.par _ h)
      refine hP_ ?_
      clear hP_ P_
      rw [hc.sub _ _ ha] at e1
      cases e1
      exact ⟨a, u', ha, e2, e3⟩
    · cases e
  · have e1 := hc.sub _ _ e
    obtain ⟨h1, h2⟩ := S.cells y a e1
    refine ⟨h1, .inr ?_⟩
    refine hide fun P_ hP_ => ?_
    obtain ⟨u', o, h3, h4⟩ := h1
    refine hP_ ?_
    clear hP_ P_
    refine ⟨o, ?_⟩
    unfold holdY
    split
    · exact h3
    · unfold St.lend; rw [if_pos (.inr ⟨y, e1⟩)]; exact h3
  · rcases List.mem_cons.mp ha with rfl | ha
    · refine ⟨hA.z, ?_, hA.s, ?_⟩
      · unfold holdY; rw [if_neg hCH]; exact lendC
      · obtain ⟨o, _, _, h, _⟩ := hns; exact ⟨o, h⟩
    · cases ha

theorem ap2 {H : List Addr} {D0 : Addr} {P : Addr → Prop} (h1 : P D0) (h2 : ∀ b ∈ H, P b) : ∀ b ∈ D0 :: H, P b := fun b hb => by
  rcases List.mem_cons.mp hb with rfl | hb
  · exact h1
  · exact h2 b hb

theorem comp_loopP (hk : c.Ok) {elt iter : Expr} {es : List Expr} {xs : List String} {kk : Nat} {tp : Pos} {scope : Scope} {cl : List (Str × Addr)} {C D0 I0 : Addr} {H : List Addr} {n : Nat} {items : List (List D)} {P : Nat → Array Value → Prop} {Sw : Nat → Heap → Prop} {Mid : Nat → Addr → Heap → Prop} {En : Heap → Prop} {R : Result → Shared → Prop}
    (hn : items.length = n) (hc : Clos c scope cl) (hN : NamesOf es xs) (hst : ∀ x ∈ xs, scope.names.lookup (Str.ofString x) = some .local) (S : St c Z Y ρ σ s) (W : WalkP c.prog c.w c.A Z I0 H n P Sw Mid En)
    (hP : ∀ i vals d, P i vals → items[i]? = some d → Rvs Z vals.toList d) (hlen : ∀ d ∈ items, d.length = xs.length) (hz : items.length ≤ 1000000)
    (h0s : Sw 0 s.heap) (hD : s.heap.get? D0 = some (lobj [] 0)) (hC : ∃ m, s.heap.Ns C m) (aH : ∀ b ∈ H, Apart c Z Y σ b) (aD : Apart c Z Y σ D0) (aC : Apart c Z Y σ C) (nD : D0 ∉ H) (nC : C ∉ H) (nCD : C ≠ D0)
    (I : List (List D) → List D → Sto → Prop) (h0 : I [] [] σ)
    (turn : ∀ pre d post acc σ, items = pre ++ d :: post → I pre acc σ → Ev (cc c scope cl C) ((seen cl ρ).setAll xs (d.map V.d)) σ elt fun v σ2 => ∃ e, v = .d e ∧ I (pre ++ [d]) (acc ++ [e]) σ2)
    (fin : ∀ Z' σ' s' ws m acc, Ext Z Z' → St c Z' Y ρ σ' s' → s'.heap.get? D0 = some (lobj ws m) → Rvs Z' ws acc → Apart c Z' Y σ' D0 → (∃ m, s'.heap.Ns C m) → Apart c Z' Y σ' C → (∀ b ∈ H, Apart c Z' Y σ' b) → En s'.heap → I items acc σ' → R (.ok .next) s') :
    codeAny (model c.prog c.w) c.A (.compLoop (.ListComp elt [⟨.Tuple es kk tp, iter, [], 0⟩] scope pos) 0 (.ref I0) (.ref D0) (compEnvC scope cl C c.env)) R s := by
  refine LCp.codeAny_compLoop_pair (fun k s' => E4 fun Z' σ' pre post => E3 fun acc ws m => A7 (items = pre ++ post) (k = post.length) (Ext Z Z') (St c Z' Y ρ σ' s') (I pre acc σ') (acc.length = pre.length) (A7 (Sw pre.length s'.heap) (s'.heap.get? D0 = some (lobj ws m)) (Rvs Z' ws acc) (∃ m, s'.heap.Ns C m) (∀ b ∈ H, Apart c Z' Y σ' b) (Apart c Z' Y σ' D0) (Apart c Z' Y σ' C))) ?_ items.length
    ⟨Z, σ, [], items, [], [], 0, rfl, rfl, Ext.refl Z, S, h0, rfl, h0s, hD, .nil, hC, aH, aD, aC⟩
  rintro k s1 q2_
  refine hide fun P_ hP_ => ?_
  obtain ⟨Z1, σ1, pre, post, acc, ws, m, hi, hkk, x1, S1, h1, hal, wI, wD, rA, wC, bH, bD, bC⟩ := q2_
  refine hP_ ?_
  clear hP_ P_
  have kz : ∀ b o, Z b = some o → s1.heap.get? b = some o := fun b o e => S1.g.keep b o (x1 _ _ e)
  cases post with
  | nil =>
    have hi' : items = pre := by rw [hi]; simp
    refine W.done s1 _ _ (by rw [← hn, hi']; exact wI) kz fun h' tk en kp => ?_
    have S2 := S1.keepBut hk (tk := tk) (h' := h') bH kp
    refine fin Z1 σ1 _ ws m acc x1 S2 (kp _ _ nD wD) rA bD ?_ bC bH en (hi' ▸ h1)
    refine hide fun P_ hP_ => ?_
    obtain ⟨m2, o, es', ep, e, rr⟩ := wC
    refine hP_ ?_
    clear hP_ P_
    exact ⟨m2, o, es', ep, kp _ _ nC e, rr⟩
  | cons d post =>
    have hd : items[pre.length]? = some d := by rw [hi]; simp
    have hdm : d ∈ items := by rw [hi]; simp
    refine W.item pre.length s1 _ _ (by rw [← hn, hi]; simp) wI kz fun T vals h' tk pv hT hTH hM kp => ?_
    have rv := (hP _ _ _ pv hd).mono x1
    have S2 := S1.keepBut hk (tk := tk) (h' := h') bH kp
    refine W.go _ _ _ _ _ _ _ _ hM (fun b o e => S2.g.keep b o (x1 _ _ e)) fun h2 w2 kp2 => ?_
    have S3 := S2.keepBut hk (tk := tk) (h' := h2) bH kp2
    have hD3 : h2.get? D0 = some (lobj ws m) := kp2 _ _ nD (kp _ _ nD wD)
    refine hide fun P_ hP_ => ?_
    obtain ⟨mC, oC, esC, epC, eC, rC⟩ := wC
    refine hP_ ?_
    clear hP_ P_
    have hnC3 : h2.Ns C mC := ⟨oC, esC, epC, kp2 _ _ nC (kp _ _ nC eC), rC⟩
    have hT3 : h2.IsTuple T vals := by
      refine hide fun P_ hP_ => ?_
      obtain ⟨o, ho, r⟩ := hT
      refine hP_ ?_
      clear hP_ P_
      exact ⟨o, kp2 _ _ hTH ho, r⟩
    have hH3 : ∀ b ∈ D0 :: H, Apart c Z1 Y σ1 b := ap2 bD bH
    have hex : ∀ b ∈ D0 :: H, ∃ o, h2.get? b = some o := ap2 ⟨_, hD3⟩ (W.live _ _ w2)
    have hCH : C ∉ D0 :: H := fun q => by
      rcases List.mem_cons.mp q with q | q
      · exact nCD q
      · exact nC q
    have SK := S3.kid0 hk hc hnC3 bC hH3 hCH
    have ok := cc_ok hk hc bC.c
    refine unpack_names (c := cc c scope cl C) ok hN (fun x hx => .loc (Clos.kidLocal (hst x hx))) rv.toV (by rw [rv.length]; exact (hlen d hdm).symm) SK (by simpa using hT3) fun s4 S4 => ?_
    refine turn pre d post acc σ1 hi h1 Z1 _ s4 _ _ S4 fun Z5 u w σ5 s5 x5 r5 k5 S5 => ?_
    refine hide fun P_ hP_ => ?_
    obtain ⟨e, rfl, k5⟩ := k5
    refine hP_ ?_
    clear hP_ P_
    refine hide fun P_ hP_ => ?_
    obtain ⟨g1, g2, g3, g4, g5⟩ := S3.unkid hk x5 bC hH3 hex S5
    refine hP_ ?_
    clear hP_ P_
    have hD5 := g4 _ (.head _) _ hD3
    have w5 : Sw (pre.length + 1) s5.heap := W.frame _ _ _ w2 (fun b hb o e => g4 b (.tail _ hb) o e) fun b o e => g1.g.keep b o ((x1.trans x5) _ _ e)
    have hpl : pre.length ≤ items.length := by rw [hi]; simp
    refine lobj_append hD5 (by rw [rA.length]; (first | lia | omega)) fun h6 n6 e6 sb6 => ?_
    have S6 := g1.keepBut hk (tk := s5.toks) (h' := h6) (wr := [D0]) (fun b hb => by rcases List.mem_cons.mp hb with rfl | hb; exact g3 _ (.head _); cases hb) fun b o hb e => (sb6.2 b (ne_mem1 hb)).trans e
    have kb : ∀ b ∈ H, ∀ o, s5.heap.get? b = some o → h6.get? b = some o := fun b hb o e => (sb6.2 b (fun q => nD (q ▸ hb))).trans e
    refine ⟨post.length, by rw [hkk]; simp, Z5, σ5, pre ++ [d], post, acc ++ [e], ws ++ [u], n6, by rw [hi]; simp, rfl, x1.trans x5, S6, k5, by simp; exact hal, ?_, e6, (rA.mono x5).append (.cons r5 .nil), ?_, fun b hb => g3 _ (.tail _ hb), g3 _ (.head _), g2⟩
    · rw [List.length_append, List.length_singleton]
      exact W.frame _ _ _ w5 kb fun b o e => S6.g.keep b o ((x1.trans x5) _ _ e)
    · obtain ⟨m7, h7⟩ := g5
      exact ⟨m7, h7.sameBut sb6 nCD⟩

/-- what a comprehension over tuples asks -/
def CompP (c : Cx) (ρ : Vars) (σ : Sto) (xs : List String) (elt : Expr) (scope : Scope) (cl : List (Str × Addr)) (items : List (List D)) (Fin : List D → Sto → Prop) : Prop :=
  ∃ (I : List (List D) → List D → Sto → Prop), A3 (I [] [] σ) (∀ C pre d post acc σ, (cc c scope cl C).Ok → items = pre ++ d :: post → I pre acc σ → Ev (cc c scope cl C) ((seen cl ρ).setAll xs (d.map V.d)) σ elt fun v σ2 => ∃ e, v = .d e ∧ I (pre ++ [d]) (acc ++ [e]) σ2) (∀ acc σ2, I items acc σ2 → Fin acc σ2)

theorem comp_blockP (hk : c.Ok) {elt iter : Expr} {es : List Expr} {xs : List String} {kk : Nat} {tp : Pos} {scope : Scope} {cl : List (Str × Addr)} {I0 : Addr} {H : List Addr} {n : Nat} {items : List (List D)} {P : Nat → Array Value → Prop} {Sw : Nat → Heap → Prop} {Mid : Nat → Addr → Heap → Prop} {En : Heap → Prop} {X : Value → Shared → Prop} {RR : Value → Addr → Result → Shared → Prop}
    {Fin : List D → Sto → Prop} (hn : items.length = n) (hc : Clos c scope cl) (hN : NamesOf es xs) (hst : ∀ x ∈ xs, scope.names.lookup (Str.ofString x) = some .local) (S : St c Z Y ρ σ s) (W : WalkP c.prog c.w c.A Z I0 H n P Sw Mid En)
    (hP : ∀ i vals d, P i vals → items[i]? = some d → Rvs Z vals.toList d) (hlen : ∀ d ∈ items, d.length = xs.length) (hz : items.length ≤ 1000000)
    (h0s : Sw 0 s.heap) (aH : ∀ b ∈ H, Apart c Z Y σ b) (cp : CompP c ρ σ xs elt scope cl items Fin)
    (fin : ∀ D0 C Z' σ' s' ws m acc, Ext Z Z' → St c Z' Y ρ σ' s' → s'.heap.get? D0 = some (lobj ws m) → Rvs Z' ws acc → Apart c Z' Y σ' D0 → (∃ m, s'.heap.Ns C m) → Apart c Z' Y σ' C → C ≠ D0 → (∀ b ∈ H, Apart c Z' Y σ' b) → D0 ∉ H → C ∉ H → En s'.heap → Fin acc σ' → RR (.ref D0) C (.ok .next) s') :
    wpAny (model c.prog c.w) c.A (newList []) (fun acc s₃ => wpAny (model c.prog c.w) c.A (newFunctionEnv scope c.env.globals cl [] c.env.qual none .none (some c.env)) (fun cenv s₄ =>
      codeAny (model c.prog c.w) c.A (.compStart (.ListComp elt [⟨.Tuple es kk tp, iter, [], 0⟩] scope pos) 0 (.ref I0) acc { cenv with scope := relabel scope c.env }) (RR acc cenv.locals) s₄) X s₃) X s := by
  refine hide fun P_ hP_ => ?_
  obtain ⟨I, h0, turn, done⟩ := cp
  refine hP_ ?_
  clear hP_ P_
  refine wpAny_newObj_type (wpAny_newFunctionEnv hc.cell (by intro y hy; simp at hy) (fun h₁ hns₁ hsb₁ => ?_) hc.kind)
  dsimp only at hns₁ hsb₁ ⊢
  have z2 : (s.heap.push { cls := .type "list", dict := none, data := .seq ([] : List Value).toArray }).objs.size = s.heap.objs.size + 1 := by rw [Heap.size_push]
  generalize hH2 : s.heap.push { cls := .type "list", dict := none, data := .seq ([] : List Value).toArray } = H2 at hns₁ hsb₁ z2 ⊢
  have fr : ∀ k, s.heap.get? (s.heap.objs.size + k) = none := fun k => Heap.get?_none_of_le (Nat.le_add_right _ _)
  have k2 : ∀ b o, s.heap.get? b = some o → H2.get? b = some o := fun b o e => hH2 ▸ Heap.get?_push_of_some _ e
  have k3 : ∀ b o, b ≠ H2.objs.size → H2.get? b = some o → h₁.get? b = some o := fun b o hb e => hsb₁.extBut _ _ hb (Heap.get?_push_of_some _ e)
  have kk' : ∀ b o, s.heap.get? b = some o → h₁.get? b = some o := fun b o e => k3 b o (by rw [z2]; exact Nat.ne_of_lt (Nat.lt_succ_of_lt (Heap.lt_size e))) (k2 _ _ e)
  have S1 := S.grow hk (tk := s.toks + ([] : List (Str × Value)).length) kk'
  have hD : h₁.get? s.heap.objs.size = some (lobj [] 0) := k3 _ _ (by rw [z2]; exact neN (by (first | lia | omega))) (hH2 ▸ get_push rfl)
  have aD : Apart c Z Y σ s.heap.objs.size := Apart.fresh S (fr 0)
  have aC : Apart c Z Y σ H2.objs.size := by rw [z2]; exact Apart.fresh S (fr 1)
  have ok := cc_ok hk hc aC.c
  have lv := W.live _ _ h0s
  have nD : s.heap.objs.size ∉ H := fun q => by obtain ⟨o, e⟩ := lv _ q; rw [show s.heap.get? s.heap.objs.size = none from fr 0] at e; cases e
  have nC : H2.objs.size ∉ H := fun q => by obtain ⟨o, e⟩ := lv _ q; rw [z2, fr 1] at e; cases e
  have h0s1 : Sw 0 h₁ := W.frame _ _ _ h0s (fun b _ o e => kk' b o e) fun b o e => kk' b o (S.g.keep b o e)
  have loop : codeAny (model c.prog c.w) c.A (.compLoop (.ListComp elt [⟨.Tuple es kk tp, iter, [], 0⟩] scope pos) 0 (.ref I0) (.ref s.heap.objs.size) (compEnvC scope cl H2.objs.size c.env)) (RR (.ref s.heap.objs.size) H2.objs.size) { s with heap := h₁, toks := s.toks + ([] : List (Str × Value)).length } :=
    comp_loopP hk hn hc hN hst S1 W hP hlen hz h0s1 hD ⟨_, hns₁⟩ aH aD aC nD nC (by rw [z2]; exact neN (by (first | lia | omega))) I h0 (fun pre d post acc σ' hi => turn _ pre d post acc σ' ok hi)
      fun Z' σ' s' ws m acc x2 S' e1 e2 e3 e4 e5 e6 e7 e8 => fin _ _ Z' σ' s' ws m acc x2 S' e1 e2 e3 e4 e5 (by rw [z2]; exact neN (by (first | lia | omega))) e6 nD nC e7 (done _ _ e8)
  exact codeAny_compStart_list loop (W.self _ _ _ _ h0s1 loop)
end
end Mine
namespace Mine
open PySem.SeqAt Classical

section
variable {prog : Program} {w : World} {A : Around} {E : Value → Shared → Prop} {s : Shared}
theorem iter_listiter {I a : Addr} {k : Nat} {Q : Value → Shared → Prop} (hI : s.heap.IsListIter I a k) (h : Q (.ref I) s) : wpAny (model prog w) A (call (.builtin "iter") [.ref I]) Q E s := by
  refine Calls.call_function_entry (by decide +kernel) (by decide +kernel) kdk_entry_iter (kdk_args_iter _) ?_
  unfold Builtin.«iter»
  refine wpAny_bind (m := someArgs "iter" 1 2 _) (wpAny_of_eq (a := [Value.ref I]) (by first | rfl | kernel_rfl!) ?_)
  show wpAny _ _ (pyIter (.ref I) >>= _) _ _ _
  exact wpAny_bind (wpAny_pyIter_listiter hI (wpAny_pure ⟨_, rfl, h⟩))
theorem iter_list {a : Addr} {xs : Array Value} {Q : Value → Shared → Prop} (hl : s.heap.IsList a xs)
    (h : Q (.ref s.heap.objs.size) { s with heap := s.heap.push { cls := .type "list_iterator", data := .fields #[.ref a, .int 0 0] } }) : wpAny (model prog w) A (call (.builtin "iter") [.ref a]) Q E s := by
  refine Calls.call_function_entry (by decide +kernel) (by decide +kernel) kdk_entry_iter (kdk_args_iter _) ?_
  unfold Builtin.«iter»
  refine wpAny_bind (m := someArgs "iter" 1 2 _) (wpAny_of_eq (a := [Value.ref a]) (by first | rfl | kernel_rfl!) ?_)
  show wpAny _ _ (pyIter (.ref a) >>= _) _ _ _
  exact wpAny_bind (wpAny_pyIter_list hl (wpAny_pure ⟨_, rfl, h⟩))
theorem len_listiter {I a : Addr} {k : Nat} {Q : Value → Shared → Prop} (hh : A.handled = none) (hI : s.heap.IsListIter I a k)
    (h : ∀ h' tk e, Heap.NewExc s.heap h' e "TypeError" → E (.ref e) { s with heap := h', toks := tk }) : wpAny (model prog w) A (call (.builtin "len") [.ref I]) Q E s := by
  refine Calls.call_function_entry kind_len plain_len entry_len (args_len1 _) ?_
  unfold Builtin.«len»
  refine wpAny_bind (m := oneArg "len" _) (wpAny_pure ?_)
  refine wpAny_bind (m := callSpecial? (.ref I) (Str.ofString "__len__")) (wpAny_callSpecial?_none (name := Str.ofString "__len__") hI.typeIs F.nolen_li ?_)
  refine wpAny_bind (wpAny_rule ?_)
  refine wpAny_bind (wpAny_typeNameOf' hI.typeIs (by decide) ?_)
  refine raiseError_exc excClass_TypeError hh (fun h' tk e ne => h h' tk e ne) ?_
  decide +kernel
end
section
variable {M : Model} {A : Around} {E : Value → Shared → Prop} {s : Shared}
/-- a fresh exception is noted in its frame -/
theorem note_new {base : Heap} {env : Env} {outer : List Env} {L e : Addr} {oe : Obj} {vs : Array Value} {Q : Unit → Shared → Prop} (hfr : A.frames = some (env :: outer)) (hl : s.heap.FunFrames base (env :: outer)) (hf : env.frame = some L)
    (he : s.heap.get? e = some oe) (hd : oe.data = .fields vs) (h1 : vs[1]? = some .none)
    (h : ∀ h' tb otb tvs, (∀ b o, b ∉ (env :: outer).filterMap (·.frame) → b ≠ e → s.heap.get? b = some o → h'.get? b = some o) → (∀ b o, b ≠ e → s.heap.get? b = some o → ∃ sl, h'.get? b = some { o with slots := sl }) →
      s.heap.get? tb = none → h'.get? e = some (oe.mapFields (·.setIfInBounds 1 (.ref tb))) → h'.get? tb = some otb → otb.data = .fields tvs → 3 < tvs.size → Q () { s with heap := h' }) :
    wpAny M A (noteFrame (.ref e) env) Q E s := by
  have hsz : 1 < vs.size := (Array.getElem?_eq_some_iff.mp h1).1
  have hene : e ∉ (env :: outer).filterMap (·.frame) := fun hm => by
    refine hide fun P_ hP_ => ?_
    obtain ⟨_, o, ho, hnf⟩ := hl.mem hm
    refine hP_ ?_
    clear hP_ P_
    rw [he] at ho; injection ho with ho; subst ho; exact hnf vs hd
  unfold noteFrame
  simp only [hf]
  refine wpAny_bind (wpAny_field he hd h1 ?_)
  rw [if_neg (by decide)]
  refine wpAny_bind (wpAny_frameOf_fun hfr hl hf fun h₁ hs₁ => ?_)
  refine wpAny_bind (wpAny_entryPlaceOf fun pl hpl => ?_)
  unfold EntryCells.newEntry newFields
  refine wpAny_bind (wpAny_newObj_type ?_ (hpl.sizeOk5 _ _ _ _ _))
  have he₁ : h₁.get? e = some oe := (hs₁.2.1 e hene).trans he
  have he₂ := Heap.get?_push_of_some (h := h₁) { cls := .type "traceback", dict := none, data := .fields ([Value.none, .ref L, .none, rawInt L, .none] ++ (if pl.isEmpty then List.replicate 6 Value.none else pl)).toArray } he₁
  refine wpAny_setField he₂ hd hsz ?_
  have hTe : h₁.objs.size ≠ e := Nat.ne_of_gt (Heap.lt_size he₁)
  have hd₃ := Obj.data_mapFields hd (·.setIfInBounds 1 (Value.ref h₁.objs.size))
  refine h _ h₁.objs.size { cls := .type "traceback", dict := none, data := .fields ([Value.none, .ref L, .none, rawInt L, .none] ++ (if pl.isEmpty then List.replicate 6 Value.none else pl)).toArray } _ (fun b o hb hbe e' => ?_) (fun b o hbe e' => ?_) (Heap.get?_none_of_le (by rw [hs₁.1]; exact Nat.le_refl _)) (Heap.get?_update_self _ he₂ (Obj.isFreed_of_fields hd₃)) ?_ rfl ?_
  · rw [Heap.get?_update_other _ _ (Ne.symm hbe)]
    exact Heap.get?_push_of_some _ ((hs₁.2.1 b hb).trans e')
  · obtain ⟨sl, e2⟩ := hs₁.2.2 b o e'
    exact ⟨sl, by rw [Heap.get?_update_other _ _ (Ne.symm hbe)]; exact Heap.get?_push_of_some _ e2⟩
  · rw [Heap.get?_update_other _ _ (Ne.symm hTe)]
    exact Heap.get?_push_size h₁ rfl
  · simp only [List.size_toArray, List.length_append, List.length_cons, List.length_nil] <;> (first | lia | omega)
end

/-! ### a frame and, beside it, an iterator and an outer frame's object -/
structure Rs where
  I : Addr
  a : Addr
  ds : List D
  F : Addr
  mF : Str → Option Value
structure Rs.At (R : Rs) (c : Cx) (Z Y : Zone) (σ : Sto) (h : Heap) (k : Nat) : Prop where
  ap : ∀ b ∈ [R.I, R.F], Apart c Z Y σ b
  it : h.IsListIter R.I R.a k
  fr : h.Ns R.F R.mF
  dt : Rv Z (.ref R.a) (.lst R.ds)

section
variable {c : Cx} {Z Y : Zone} {ρ : Vars} {σ : Sto} {s : Shared} {K : Fl → Vars → Sto → Prop} {pos p1 p2 : Pos} {R : Rs} {k : Nat}
/-- what is left at the end -/
structure Rs.Out (R : Rs) (c : Cx) (Z Y : Zone) (σ : Sto) (h : Heap) : Prop where
  ap : Apart c Z Y σ R.F
  fr : h.Ns R.F R.mF
theorem Rs.At.ex {h : Heap} (r : R.At c Z Y σ h k) : ∀ b ∈ [R.I, R.F], ∃ o, h.get? b = some o := fun b hb => by
  rcases List.mem_cons.mp hb with rfl | hb
  · obtain ⟨o, e, _⟩ := r.it; exact ⟨o, e⟩
  · rcases List.mem_cons.mp hb with rfl | hb
    · obtain ⟨o, _, _, e, _⟩ := r.fr; exact ⟨o, e⟩
    · cases hb
theorem Rs.At.out {h : Heap} (r : R.At c Z Y σ h k) : R.Out c Z Y σ h := ⟨r.ap _ (.tail _ (.head _)), r.fr⟩
/-- a part that does not touch them leaves them -/
theorem Rs.At.back (r : R.At c Z Y σ s.heap k) (S : St c Z Y ρ σ s) {Z' : Zone} {σ' : Sto} {ρ' : Vars} {s' : Shared} (x : Ext Z Z') (S' : St c Z' (holdY [R.I, R.F] Y s) ρ' σ' s') : St c Z' Y ρ' σ' s' ∧ R.At c Z' Y σ' s'.heap k := by
  refine ⟨S.unhold r.ap S', Apart.after r.ap S' r.ex, ?_, ?_, r.dt.mono x⟩
  · refine hide fun P_ hP_ => ?_
    obtain ⟨o, e, rr⟩ := r.it
    refine hP_ ?_
    clear hP_ P_
    exact ⟨o, (S'.g.held (.head _) e).2.2, rr⟩
  · refine hide fun P_ hP_ => ?_
    obtain ⟨o, es, ep, e, rr⟩ := r.fr
    refine hP_ ?_
    clear hP_ P_
    exact ⟨o, es, ep, (S'.g.held (.tail _ (.head _)) e).2.2, rr⟩
def SxI (R : Rs) (k : Nat) (c : Cx) (ρ : Vars) (σ : Sto) (t : Sem Flow) (K : Fl → Vars → Sto → Prop) : Prop :=
  ∀ (Z Y : Zone) (s : Shared) (Q : Flow → Shared → Prop) (X : Value → Shared → Prop), St c Z Y ρ σ s → R.At c Z Y σ s.heap k →
    (∀ Z' f g ρ' σ' s', Ext Z Z' → RF Z' f g → K g ρ' σ' → St c Z' Y ρ' σ' s' → R.Out c Z' Y σ' s'.heap → Q f s') → wpAny (model c.prog c.w) c.A t Q X s
def ExI (R : Rs) (k : Nat) (c : Cx) (ρ : Vars) (σ : Sto) (ss : List Stmt) (K : Fl → Vars → Sto → Prop) : Prop := SxI R k c ρ σ (execs ss c.env) K
theorem exI_cons {st : Stmt} {rest : List Stmt} (h : Ex1 c ρ σ st fun f ρ1 σ1 => match f with | .next => ExI R k c ρ1 σ1 rest K | f => K f ρ1 σ1) : ExI R k c ρ σ (st :: rest) K := fun Z Y s Q X S r q =>
  wpAny_execs_cons (h Z _ s _ X (S.hold r.ap) fun Z1 f g ρ1 σ1 s1 x1 r1 h1 S1 => by
    obtain ⟨S2, r2⟩ := r.back S x1 S1
    cases r1 with
    | next => exact h1 Z1 Y s1 Q X S2 r2 fun Z2 f2 g2 ρ2 σ2 s2 x2 rr2 k2 S3 o => q Z2 f2 g2 ρ2 σ2 s2 (x1.trans x2) rr2 k2 S3 o
    | brk => exact q Z1 _ _ ρ1 σ1 s1 x1 .brk h1 S2 r2.out
    | cont => exact q Z1 _ _ ρ1 σ1 s1 x1 .cont h1 S2 r2.out
    | ret hr => exact q Z1 _ _ ρ1 σ1 s1 x1 (.ret hr) h1 S2 r2.out)
theorem exI_skip {t : Expr} {a rest : List Stmt} (h : Tst c ρ σ t fun b σ1 => b = false ∧ ExI R k c ρ σ1 rest K) : ExI R k c ρ σ (.If t a [] pos :: rest) K := by
  refine exI_cons (ex_if (fun Z Y s Q X S q => h Z Y s Q X S fun Z1 b σ1 s1 x1 k1 S1 => q Z1 b σ1 s1 x1 ?_ S1))
  obtain ⟨rfl, h1⟩ := k1
  rw [if_neg (by decide)]
  exact ex_nil h1
theorem exI_take {t : Expr} {a b rest : List Stmt} (h : Tst c ρ σ t fun r σ1 => r = true ∧ ExI R k c ρ σ1 a fun f ρ' σ' => match f with | .next => False | f => K f ρ' σ') : ExI R k c ρ σ (.If t a b pos :: rest) K := fun Z Y s Q X S r q =>
  wpAny_execs_cons (wpAny_If (h Z _ s _ X (S.hold r.ap) fun Z1 b σ1 s1 x1 k1 S1 => by
    obtain ⟨rfl, h1⟩ := k1
    obtain ⟨S2, r2⟩ := r.back S x1 S1
    simp only [if_true]
    refine h1 Z1 Y s1 _ X S2 r2 fun Z2 f2 g2 ρ2 σ2 s2 x2 rr2 k2 S3 o => ?_
    cases rr2 with
    | next => exact k2.elim
    | brk => exact q Z2 _ _ ρ2 σ2 s2 (x1.trans x2) .brk k2 S3 o
    | cont => exact q Z2 _ _ ρ2 σ2 s2 (x1.trans x2) .cont k2 S3 o
    | ret hr => exact q Z2 _ _ ρ2 σ2 s2 (x1.trans x2) (.ret hr) k2 S3 o))
end
end Mine
namespace Mine
open PySem.SeqAt Classical

section
variable {c : Cx} {Z Y : Zone} {ρ : Vars} {σ : Sto} {s : Shared} {K : Fl → Vars → Sto → Prop} {pos p1 p2 p3 p4 p5 p6 p7 p8 p9 p10 : Pos} {R : Rs} {k : Nat}

theorem St.keepLB (S : St c Z Y ρ σ s) (hk : c.Ok) {wr : List Addr} {h' : Heap} {tk : Nat} (hw : ∀ a ∈ wr, Apart c Z Y σ a) (k : ∀ b o, b ∉ wr → b ≠ c.env.locals → s.heap.get? b = some o → h'.get? b = some o) {m : Str → Option Value} (hn : h'.Ns c.env.locals m)
    (hm : ∀ x v, ρ x = some v → c.env.kindOf (Str.ofString x) = some .local → ∃ u, m (Str.ofString x) = some u ∧ RV Z u v) : St c Z Y ρ σ { s with heap := h', toks := tk } := by
  refine hide fun P_ hP_ => ?_
  obtain ⟨o1, o2, o3, -⟩ := S.own _ hk.L
  refine hP_ ?_
  clear hP_ P_
  refine ⟨⟨by rw [S.g.same], S.g.base, fun a o e => k a o (fun q => ?_) (fun q => ?_) (S.g.keep a o e), fun a o e => k a o (fun q => ?_) (fun q => ?_) (S.g.keepY a o e), S.g.zy, fun a l e => ?_⟩, ⟨m, hn, hm⟩, fun y v e hy => ?_, fun y a e => ?_, fun a ha => ?_⟩
  · rw [(hw a q).z] at e; cases e
  · rw [q, o1] at e; cases e
  · rw [(hw a q).y] at e; cases e
  · rw [q, o2] at e; cases e
  · refine hide fun P_ hP_ => ?_
    obtain ⟨h1, h2, vs, n, h3, h4⟩ := S.g.lists a l e
    refine hP_ ?_
    clear hP_ P_
    exact ⟨h1, h2, vs, n, k a _ (fun q => by rw [(hw a q).s] at e; cases e) (fun q => by rw [q, o3] at e; cases e) h3, h4⟩
  · refine hide fun P_ hP_ => ?_
    obtain ⟨a, u, e1, ⟨o, e2, e3⟩, e4⟩ := S.cell y v e hy
    refine hP_ ?_
    clear hP_ P_
    exact ⟨a, u, e1, ⟨o, k _ _ (fun q => (hw _ q).c _ e1) (hk.notL _ _ e1) e2, e3⟩, e4⟩
  · refine hide fun P_ hP_ => ?_
    obtain ⟨⟨u, o, e2, e3⟩, e4⟩ := S.cells y a e
    refine hP_ ?_
    clear hP_ P_
    exact ⟨⟨u, o, k _ _ (fun q => (hw _ q).c _ e) (hk.notL _ _ e) e2, e3⟩, e4⟩
  · refine hide fun P_ hP_ => ?_
    obtain ⟨h1, h2, h3, o, h4⟩ := S.own a ha
    refine hP_ ?_
    clear hP_ P_
    refine ⟨h1, h2, h3, ?_⟩
    by_cases q : a = c.env.locals
    · obtain ⟨oL, _, _, e, _⟩ := hn; rw [q]; exact ⟨oL, e⟩
    · exact ⟨o, k _ _ (fun z => (hw _ z).o ha) q h4⟩

/-- a built-in name, wherever it is looked up -/
theorem name_builtin (hk : c.Ok) (S : St c Z Y ρ σ s) {A : Around} {x : Str} {v : Value} (e : nsIn c.K mainGlobals x = some none) (hv : bootBuiltins x = some v) (hl : c.env.kindOf x = some .globalImplicit) (hn : x ≠ "__name__") (hd : (x == ("__debug__" : Str)) = false)
    {Q : Value → Shared → Prop} {X : Value → Shared → Prop} (q : Q v s) : wpAny (model c.prog c.w) A (eval (.Name x pos) c.env) Q X s := by
  obtain ⟨mg, hg⟩ := hk.bs.g
  refine hide fun P_ hP_ => ?_
  obtain ⟨mb, hb, hb2⟩ := hk.bs.b
  refine hP_ ?_
  clear hP_ P_
  exact Calls.Name_function_global hk.fn hl (Calls.loadGlobal_builtin (mg := mg) (mb := mb) (by rw [hk.glob]; exact S.g.ns hg) (mg_none_of hk.bs.K hg e) (by rw [hk.blt]; exact S.g.ns hb) ((hb2 x hn).trans hv) q) hd

/-- what a frame above another knows of the frames -/
structure Frm (c : Cx) (R : Rs) (eF : Env) : Prop where
  fs : c.A.frames = some [c.env, eF]
  f : c.env.frame = some c.env.locals
  fF : eF.frame = some R.F
  kF : eF.scope.kind ≠ .module

theorem tup2_eval (hk : c.Ok) (S : St c Z Y ρ σ s) {A : Around} {x y : Str} {u v : Value} {kk : Nat} {Q : Value → Shared → Prop} {X : Value → Shared → Prop}
    (nx : nsIn c.K mainGlobals x = some none) (vx : bootBuiltins x = some u) (kx : c.env.kindOf x = some .globalImplicit) (x1 : x ≠ "__name__") (x2 : (x == ("__debug__" : Str)) = false)
    (ny : nsIn c.K mainGlobals y = some none) (vy : bootBuiltins y = some v) (ky : c.env.kindOf y = some .globalImplicit) (y1 : y ≠ "__name__") (y2 : (y == ("__debug__" : Str)) = false)
    (q : Q (.ref s.heap.objs.size) { s with heap := s.heap.push { cls := .type "tuple", data := .seq [u, v].toArray } }) :
    wpAny (model c.prog c.w) A (eval (.Tuple [.Name x p1, .Name y p2] kk pos) c.env) Q X s := by
  refine wpAny_Tuple (wpAny_items_cons (name_builtin hk S nx vx kx x1 x2 (wpAny_items_cons (name_builtin hk S ny vy ky y1 y2 (wpAny_items_nil ?_)) (by rfl))) (by rfl))
  exact ⟨by rw [sizeLine_eq]; simp, q⟩

/-- try: y = len(x) except (TypeError, AttributeError): pass, where x is the iterator -/
theorem exI_try (hk : c.Ok) {eF : Env} (fr : Frm c R eF) {x y : String} {orelse rest : List Stmt} {kk : Nat} (hx : ρ x = some (.raw (.ref R.I))) (hl : c.env.kindOf (Str.ofString x) = some .local) (hdb : (Str.ofString x == ("__debug__" : Str)) = false)
    (n1 : nsIn c.K mainGlobals (Str.ofString "len") = some none) (k1 : c.env.kindOf (Str.ofString "len") = some .globalImplicit)
    (n2 : nsIn c.K mainGlobals (Str.ofString "TypeError") = some none) (k2 : c.env.kindOf (Str.ofString "TypeError") = some .globalImplicit)
    (n3 : nsIn c.K mainGlobals (Str.ofString "AttributeError") = some none) (k3 : c.env.kindOf (Str.ofString "AttributeError") = some .globalImplicit)
    (hsw : swapsWith (.Call (.Name (Str.ofString "len") p1) [.Name (Str.ofString x) p2] [] p3) (some (.Name (Str.ofString y) p4)) p5.line c.env = pure false)
    (h : ExI R k c ρ σ rest K) :
    ExI R k c ρ σ (.Try [.Assign [.Name (Str.ofString y) p4] (.Call (.Name (Str.ofString "len") p1) [.Name (Str.ofString x) p2] [] p3) p5] [.ExceptHandler (some (.Tuple [.Name (Str.ofString "TypeError") p6, .Name (Str.ofString "AttributeError") p7] kk p8)) none [.Pass p9] p10] orelse [] pos :: rest) K := fun Z Y s Q X S r q => by
  refine wpAny_execs_cons (wpAny_Try_except (wpAny_execs_cons (wpAny_Assign_Name (Call_Name rfl (name_builtin hk S n1 (by first | rfl | decide) k1 (by decide) (by decide) ?_)) hsw)))
  refine Calls.callWith_builtin rfl (Calls.evalArgs_plain (show wpAny _ c.A (spliced (backTo p3 (starEach [.Name (Str.ofString x) p2] c.env))) _ _ _ from wpAny_items_cons ?_ rfl))
  refine hide fun P_ hP_ => ?_
  obtain ⟨m, u, hm1, hm2, hm3⟩ := S.get hx hl
  refine hP_ ?_
  clear hP_ P_
  cases hm3
  refine wpAny_Name (wpAny_loadName_local hk.fn hl hm1 hm2 (wpAny_items_nil ?_)) hdb
  refine len_listiter hk.hand r.it fun h1 tk e ne => ?_
  refine hide fun P_ hP_ => ?_
  obtain ⟨ob, t0, he, hcls, hd⟩ := ne.there
  refine hP_ ?_
  clear hP_ P_
  have S1 := S.grow hk (tk := tk) ne.keeps
  have eI : e ≠ R.I := fun z => by obtain ⟨o, ho, _⟩ := r.it; rw [← z, ne.new] at ho; cases ho
  have eF' : e ≠ R.F := fun z => by obtain ⟨o, _, _, ho, _⟩ := r.fr; rw [← z, ne.new] at ho; cases ho
  obtain ⟨oL, hoL⟩ := (S.own _ hk.L).2.2.2
  have eL : e ≠ c.env.locals := fun z => by rw [← z, ne.new] at hoL; cases hoL
  have hns1 : h1.Ns c.env.locals m := hm1.keeps ne.keeps
  have hF1 : h1.Ns R.F R.mF := r.fr.keeps ne.keeps
  have emp : ∀ a, ({ s.heap with objs := #[] } : Heap).get? a = none := fun a => Heap.get?_none_of_le (Nat.zero_le _)
  refine note_new (base := { s.heap with objs := #[] }) (vs := #[t0, .none, .none, .none, .bool false, .none]) fr.fs (.cons (by rw [hk.fn]; decide) fr.f hns1 (emp _) (.cons fr.kF fr.fF hF1 (emp _) trivial)) fr.f he hd rfl fun h2 tb otb tvs q1 q2 q3 q4 q5 q6 q7 => ?_
  have fl : [c.env, eF].filterMap (·.frame) = [c.env.locals, R.F] := by simp [fr.f, fr.fF]
  rw [fl] at q1
  have tbe : tb ≠ e := fun z => by rw [z, he] at q3; cases q3
  have d2 : (ob.mapFields (·.setIfInBounds 1 (.ref tb))).data = .fields #[t0, .ref tb, .none, .none, .bool false, .none] := by
    rw [Obj.data_mapFields hd]; simp
  refine wpAny_setFlight_none q4 d2 rfl q5 q6 q7 ?_
  have keep1 : ∀ b o, b ∉ [R.F] → b ≠ c.env.locals → s.heap.get? b = some o → (h2.update tb (Obj.mapFields (·.setIfInBounds 3 .none))).get? b = some o := fun b o b1 b2 eb => by
    have eb1 := ne.keeps b o eb
    have bt : b ≠ tb := fun z => by rw [z, q3] at eb1; cases eb1
    rw [Heap.get?_update_ne _ _ _ _ bt]
    refine q1 b o (fun z => ?_) (fun z => by rw [z, ne.new] at eb; cases eb) eb1
    rcases List.mem_cons.mp z with z | z
    · exact b2 z
    · exact b1 z
  have ups : ∀ {L : Addr} {m : Str → Option Value}, s.heap.Ns L m → (h2.update tb (Obj.mapFields (·.setIfInBounds 3 .none))).Ns L m := fun {L m} hn => by
    refine hide fun P_ hP_ => ?_
    obtain ⟨o, es, ep, ho, rr⟩ := hn
    refine hP_ ?_
    clear hP_ P_
    have ho1 := ne.keeps _ _ ho
    have Lt : L ≠ tb := fun z => by rw [z, q3] at ho1; cases ho1
    have Le : L ≠ e := fun z => by rw [z, ne.new] at ho; cases ho
    obtain ⟨sl, ho2⟩ := q2 _ _ Le ho1
    exact ⟨_, es, ep, (Heap.get?_update_ne _ _ _ _ Lt).trans ho2, rr⟩
  have S2 := S.keepLB hk (wr := [R.F]) (tk := tk) (h' := h2.update tb (Obj.mapFields (·.setIfInBounds 3 .none))) (fun b hb => r.ap b (.tail _ hb)) keep1 (ups hm1) (fun x v ex kx => by
    refine hide fun P_ hP_ => ?_
    obtain ⟨m2, hm2', hh2⟩ := S.ns
    refine hP_ ?_
    clear hP_ P_
    have : m2 = m := by
      refine hide fun P_ hP_ => ?_
      obtain ⟨o, es, ep, a1, a2, a3⟩ := hm2'
      refine hP_ ?_
      clear hP_ P_
      refine hide fun P_ hP_ => ?_
      obtain ⟨o', es', ep', b1, b2, b3⟩ := hm1
      refine hP_ ?_
      clear hP_ P_
      rw [a1] at b1; cases b1
      rw [a2] at b2; cases b2
      funext z
      first | exact (a3 z).symm.trans (b3 z) | exact (a3.2 z).symm.trans (b3.2 z) | (simp_all)
    rw [← this]; exact hh2 x v ex kx)
  generalize hH : h2.update tb (Obj.mapFields (·.setIfInBounds 3 .none)) = H2 at keep1 ups S2 ⊢
  have he2 : H2.get? e = some (ob.mapFields (·.setIfInBounds 1 (.ref tb))) := by rw [← hH, Heap.get?_update_ne _ _ _ _ (Ne.symm tbe)]; exact q4
  have htb2 : H2.get? tb = some (otb.mapFields (·.setIfInBounds 3 .none)) := by rw [← hH]; exact Heap.get?_update_self _ q5 (Obj.isFreed_of_fields (Obj.data_mapFields q6 _))
  refine wpAny_handleBy_tup2 (X := "TypeError") (T1 := "TypeError") (T2 := "AttributeError") (b1 := true) (b2 := false) (isSubtype_of_subB (by decide +kernel)) (isSubtype_of_subB (by decide +kernel)) (isSubtype_of_subB (by decide +kernel)) (isSubtype_of_subB (by decide +kernel)) (isSubtype_of_subB (by decide +kernel)) (isSubtype_of_subB (by decide +kernel)) ?_
  refine tup2_eval (u := .type "TypeError") (v := .type "AttributeError") hk S2 n2 (by first | rfl | decide) k2 (by decide) (by decide) n3 (by first | rfl | decide) k3 (by decide) (by decide) ?_
  refine ⟨_, rfl, IsTup.new _ _, ⟨_, Heap.get?_push_of_some _ he2, (Obj.cls_mapFields _ _).trans hcls⟩, ?_⟩
  rw [if_pos (show (true || false) = true from rfl)]
  refine wpAny_setFlight_none (Heap.get?_push_of_some _ he2) d2 rfl (Heap.get?_push_of_some _ htb2) (Obj.data_mapFields q6 _) (by simpa using q7) ?_
  have keep2 : ∀ b o, b ≠ tb → H2.get? b = some o → ((H2.push { cls := .type "tuple", data := .seq [Value.type "TypeError", Value.type "AttributeError"].toArray }).update tb (Obj.mapFields (·.setIfInBounds 3 .none))).get? b = some o := fun b o bt e' => by
    rw [Heap.get?_update_ne _ _ _ _ bt]
    exact Heap.get?_push_of_some _ e'
  have aT : Apart c Z Y σ tb := Apart.fresh S1 q3
  have S3 := S2.keepBut hk (wr := [tb]) (tk := tk) (fun a ha => by rcases List.mem_cons.mp ha with rfl | ha; exact aT; cases ha) fun b o hb e' => keep2 b o (fun z => hb (by rw [z]; exact .head _)) e'
  refine wpAny_execs_cons (wpAny_Pass (wpAny_execs_nil ?_))
  have notT : ∀ b o, s.heap.get? b = some o → b ≠ tb := fun b o eb z => by have eb1 := ne.keeps b o eb; rw [z, q3] at eb1; cases eb1
  refine h Z Y _ Q X S3 ⟨r.ap, ?_, ?_, r.dt⟩ q
  · refine hide fun P_ hP_ => ?_
    obtain ⟨o, ho, rr⟩ := r.it
    refine hP_ ?_
    clear hP_ P_
    have IF : R.I ∉ [R.F] := fun z => by
      rcases List.mem_cons.mp z with z | z
      · refine hide fun P_ hP_ => ?_
        obtain ⟨o', es, ep, ho', hd', _⟩ := r.fr
        refine hP_ ?_
        clear hP_ P_
        rw [← z, ho] at ho'; cases ho'
        rw [rr.2] at hd'; cases hd'
      · cases z
    have IL : R.I ≠ c.env.locals := fun z => (r.ap _ (.head _)).o (by rw [z]; exact hk.L)
    exact ⟨o, keep2 _ _ (notT _ _ ho) (keep1 _ _ IF IL ho), rr⟩
  · refine hide fun P_ hP_ => ?_
    obtain ⟨o0, es0, ep0, ho0, _⟩ := id r.fr
    refine hP_ ?_
    clear hP_ P_
    refine hide fun P_ hP_ => ?_
    obtain ⟨o, es, ep, ho, rr⟩ := ups r.fr
    refine hP_ ?_
    clear hP_ P_
    exact ⟨o, es, ep, keep2 _ _ (notT _ _ ho0) ho, rr⟩

/-- an expression beside the iterator -/
def EvI (R : Rs) (k : Nat) (c : Cx) (ρ : Vars) (σ : Sto) (e : Expr) (K : V → Sto → Prop) : Prop :=
  ∀ (Z Y : Zone) (s : Shared) (Q : Value → Shared → Prop) (X : Value → Shared → Prop), St c Z Y ρ σ s → R.At c Z Y σ s.heap k →
    (∀ Z' u v σ' s', Ext Z Z' → RV Z' u v → K v σ' → St c Z' Y ρ σ' s' → R.At c Z' Y σ' s'.heap k → Q u s') → wpAny (model c.prog c.w) c.A (eval e c.env) Q X s
/-- iter(x), where x is the iterator -/
theorem evI_iter (hk : c.Ok) {x : String} {K : V → Sto → Prop} (hx : ρ x = some (.raw (.ref R.I))) (hl : c.env.kindOf (Str.ofString x) = some .local) (hdb : (Str.ofString x == ("__debug__" : Str)) = false)
    (n1 : nsIn c.K mainGlobals (Str.ofString "iter") = some none) (k1 : c.env.kindOf (Str.ofString "iter") = some .globalImplicit) (h : K (.raw (.ref R.I)) σ) :
    EvI R k c ρ σ (.Call (.Name (Str.ofString "iter") p1) [.Name (Str.ofString x) p2] [] p3) K := fun Z Y s Q X S r q => by
  refine Call_Name rfl (name_builtin hk S n1 (by first | rfl | decide) k1 (by decide) (by decide) ?_)
  refine Calls.callWith_builtin rfl (Calls.evalArgs_plain (show wpAny _ c.A (spliced (backTo p3 (starEach [.Name (Str.ofString x) p2] c.env))) _ _ _ from wpAny_items_cons ?_ rfl))
  refine hide fun P_ hP_ => ?_
  obtain ⟨m, u, hm1, hm2, hm3⟩ := S.get hx hl
  refine hP_ ?_
  clear hP_ P_
  cases hm3
  refine wpAny_Name (wpAny_loadName_local hk.fn hl hm1 hm2 (wpAny_items_nil ?_)) hdb
  exact iter_listiter r.it (q Z _ _ σ s (Ext.refl Z) RV.raw h S r)
theorem exI_assign (hk : c.Ok) {x : String} {e : Expr} {rest : List Stmt} (h : EvI R k c ρ σ e fun v σ1 => ExI R k c (ρ.set x v) σ1 rest K) (hl : c.env.kindOf (Str.ofString x) = some .local)
    (hs : swapsWith e (some (.Name (Str.ofString x) p1)) pos.line c.env = pure false) : ExI R k c ρ σ (.Assign [.Name (Str.ofString x) p1] e pos :: rest) K := fun Z Y s Q X S r q =>
  wpAny_execs_cons (wpAny_Assign_Name (h Z Y s _ X S r fun Z1 u v σ1 s1 x1 r1 k1 S1 rs1 => store_local hk hl (S1.hold rs1.ap) r1 fun s' S' => by
    obtain ⟨S2, rs2⟩ := rs1.back S1 (Ext.refl Z1) S'
    exact k1 Z1 Y s' Q X S2 rs2 fun Z2 f2 g2 ρ2 σ2 s2 x2 rr2 k2 S3 o => q Z2 f2 g2 ρ2 σ2 s2 (x1.trans x2) rr2 k2 S3 o) hs)

/-- for x in it, where it is the iterator: the things from place k on -/
theorem walks_from {prog : Program} {w : World} {A : Around} {I a : Addr} {vs : List Value} (hh : A.handled = none) (hne : a ≠ I) (hk : k ≤ vs.length) :
    Walks prog w A I [I, a] [I] (vs.length - k) (fun i v => (vs.drop k)[i]? = some v) (fun i h => h.IsListIter I a (k + i) ∧ h.IsList a vs.toArray) := by
  have W := Walks.list (prog := prog) (w := w) (A := A) hh I a hne vs.toArray
  refine ⟨W.sub, fun i h h' => W.frame (k + i) h h', fun i s Q E hi st hQ => ?_, fun s Q E st hQ => ?_, fun i s Q E => W.self (k + i) s Q E⟩
  · refine W.item (k + i) s Q E (by rw [List.size_toArray]; (first | lia | omega)) st fun v h' tk hv st' kk => ?_
    refine hQ v h' tk ?_ st' kk
    rw [List.getElem?_drop]
    rw [List.getElem?_toArray] at hv
    exact hv
  · refine W.done s Q E ?_ hQ
    rw [show k + (vs.length - k) = vs.toArray.size from by rw [List.size_toArray]; (first | lia | omega)] at st
    exact st
theorem exI_for (hk : c.Ok) {x y : String} {body rest : List Stmt} (hx : Storable c x) (hy : ρ y = some (.raw (.ref R.I))) (hl : c.env.kindOf (Str.ofString y) = some .local) (hdb : (Str.ofString y == ("__debug__" : Str)) = false) (hkl : k ≤ R.ds.length)
    (J : List D → Vars → Sto → Prop) (h0 : J [] ρ σ)
    (turn : ∀ pre d post ρ σ, R.ds.drop k = pre ++ d :: post → J pre ρ σ → Ex c (ρ.set x (.d d)) σ body (Turn (fun f ρ' σ' => match f with | .next => Ex c ρ' σ' rest K | f => K f ρ' σ') (J (pre ++ [d]))))
    (done : ∀ ρ σ, J (R.ds.drop k) ρ σ → Ex c ρ σ rest K) : ExI R k c ρ σ (.For (.Name (Str.ofString x) p1) (.Name (Str.ofString y) p2) body [] pos :: rest) K := fun Z Y s Q X S r q => by
  have hF : ∀ b ∈ [R.F], Apart c Z Y σ b := fun b hb => r.ap b (.tail _ hb)
  have finish : ∀ Z' f g ρ' σ' s', Ext Z Z' → RF Z' f g → K g ρ' σ' → St c Z' (holdY [R.F] Y s) ρ' σ' s' → Q f s' := fun Z' f g ρ' σ' s' x1 rf kk S' => by
    refine hide fun P_ hP_ => ?_
    obtain ⟨o, es, ep, e, rr⟩ := r.fr
    refine hP_ ?_
    clear hP_ P_
    have ap := Apart.after hF S' (mem1 ⟨o, e⟩)
    exact q Z' f g ρ' σ' s' x1 rf kk (S.unhold hF S') ⟨ap _ (.head _), o, es, ep, (S'.g.held (.head _) e).2.2, rr⟩
  have SH := S.hold hF
  refine wpAny_execs_cons (wpAny_For ?_ (fun _ => rfl))
  refine hide fun P_ hP_ => ?_
  obtain ⟨m, u, hm1, hm2, hm3⟩ := S.get hy hl
  refine hP_ ?_
  clear hP_ P_
  cases hm3
  refine wpAny_Name (wpAny_loadName_local hk.fn hl hm1 hm2 ?_) hdb
  refine wpAny_pyIter_listiter r.it ?_
  refine hide fun P_ hP_ => ?_
  obtain ⟨a, rit, rF, rdt⟩ := r
  refine hP_ ?_
  clear hP_ P_
  generalize hds : R.ds = ds at rdt hkl turn done h0
  generalize ha : R.a = aa at rdt rit
  cases rdt using Rv.lstE with
  | lst e rr =>
    rename_i vs n
    have hlen := rr.length
    have hne : aa ≠ R.I := fun z => by rw [z, (a _ (.head _)).z] at e; cases e
    have hIF : R.I ∉ [R.F] := fun z => by
      rcases List.mem_cons.mp z with z | z
      · refine hide fun P_ hP_ => ?_
        obtain ⟨o', es, ep, ho', hd', _⟩ := rF
        refine hP_ ?_
        clear hP_ P_
        refine hide fun P_ hP_ => ?_
        obtain ⟨o, ho, rr⟩ := rit
        refine hP_ ?_
        clear hP_ P_
        rw [← z, ho] at ho'; cases ho'
        rw [rr.2] at hd'; cases hd'
      · cases z
    have apI : ∀ b ∈ [R.I], Apart c Z (holdY [R.F] Y s) σ b := fun b hb => by
      rcases List.mem_cons.mp hb with rfl | hb
      · have q := a R.I (.head _)
        refine ⟨q.z, ?_, q.s, q.o, q.c⟩
        unfold holdY; rw [if_neg hIF]; exact q.y
      · cases hb
    have src : Src c Z (holdY [R.F] Y s) σ s R.I [R.I] (vs.length - k) (fun i v => (vs.drop k)[i]? = some v) := {
      fp := [R.I, aa], wr := [R.I]
      Sw := fun i h => h.IsListIter R.I aa (k + i) ∧ h.IsList aa vs.toArray
      W := walks_from hk.hand hne (by (first | lia | omega))
      zero := ⟨rit, isList_of S.g.keep e⟩
      sub := fun b hb => by
        rcases List.mem_cons.mp hb with rfl | hb
        · exact .inl (.head _)
        · rcases List.mem_cons.mp hb with rfl | hb
          · exact .inr ⟨_, e⟩
          · cases hb
      wsub := fun b hb => hb
      live := fun i h st b hb => by
        rcases List.mem_cons.mp hb with rfl | hb
        · obtain ⟨⟨o, ho, _⟩, _⟩ := st; exact ⟨o, ho⟩
        · cases hb
      apart := apI
      ex := fun b hb => by
        rcases List.mem_cons.mp hb with rfl | hb
        · obtain ⟨o, ho, _⟩ := rit; exact ⟨o, ho⟩
        · cases hb }
    refine for_core (K := fun f ρ' σ' => match f with | .next => Ex c ρ' σ' rest K | f => K f ρ' σ') hk (items := ds.drop k) (by rw [List.length_drop, hlen]) hx SH src (fun i v d hv hd => ?_) J turn done h0 fun Z' f g ρ' σ' s' x1 rf kk S' => ?_
    · refine hide fun P_ hP_ => ?_
      obtain ⟨v', e1, e2⟩ := rr.drop.get (i := i) hd
      refine hP_ ?_
      clear hP_ P_
      rw [hv] at e1; cases e1; exact e2
    · cases rf with
      | next => exact kk Z' _ s' Q X S' fun Z2 f2 g2 ρ2 σ2 s2 x2 rr2 k2 S2 => finish Z2 f2 g2 ρ2 σ2 s2 (x1.trans x2) rr2 k2 S2
      | brk => exact finish Z' _ _ ρ' σ' s' x1 .brk kk S'
      | cont => exact finish Z' _ _ ρ' σ' s' x1 .cont kk S'
      | ret hr => exact finish Z' _ _ ρ' σ' s' x1 (.ret hr) kk S'
end
end Mine
namespace Mine
open PySem.SeqAt Classical

theorem walk_zipr {prog : Program} {w : World} {A : Around} {Z : Zone} {z TI TO r I a : Addr} {vs : List Value} {nn n : Nat} (hh : A.handled = none) (hZ : Z a = some (lobj vs nn)) (D : ZA z TI TO r I a) (hn : n ≤ vs.length) :
    WalkP prog w A Z z [z, TI, TO, r, I] n (fun i vals => E2 fun t v => vals = #[.int i t, v] ∧ vs[i]? = some v)
      (fun i h => IsZip h z TI TO .none ∧ IsPair h TI (.ref r) (.ref I) ∧ (E2 fun u v => IsPair h TO u v) ∧ IsRangeIter h r (i : Nat) ((n : Int) - (i : Nat)) 1 ∧ h.IsListIter I a i)
      (fun i T h => IsZip h z TI TO (rawInt T) ∧ IsPair h TI (.ref r) (.ref I) ∧ (E2 fun u v => IsPair h TO u v) ∧ IsRangeIter h r ((i + 1 : Nat)) ((n : Int) - ((i + 1 : Nat))) 1 ∧ h.IsListIter I a (i + 1))
      (fun h => h.IsListIter I a n) where
  frame := fun i h h' st k _ => by
    refine hide fun P_ hP_ => ?_
    obtain ⟨h1, h2, ⟨u, v, h3⟩, h4, o, h5, h6⟩ := st
    refine hP_ ?_
    clear hP_ P_
    exact ⟨k _ (by simp) _ h1, k _ (by simp) _ h2, ⟨u, v, k _ (by simp) _ h3⟩, k _ (by simp) _ h4, o, k _ (by simp) _ h5, h6⟩
  item := fun i s Q E hi st kz hQ => by
    refine hide fun P_ hP_ => ?_
    obtain ⟨h1, h2, ⟨u, v, h3⟩, h4, h5⟩ := st
    refine hP_ ?_
    clear hP_ P_
    have hl : i < vs.length := by (first | lia | omega)
    refine zipr_item D h1 h2 h3 h4 (by (first | lia | omega)) h5 (isList_of kz hZ) (y := vs[i]) (by rw [List.getElem?_toArray]; exact List.getElem?_eq_getElem hl) fun h' q1 q2 q3 q4 q5 q6 => ?_
    have e1 : ((i : Nat) : Int) + 1 = ((i + 1 : Nat) : Int) := by (first | lia | omega)
    have e2 : (n : Int) - ((i : Nat) : Int) - 1 = (n : Int) - ((i + 1 : Nat) : Int) := by (first | lia | omega)
    rw [e1, e2] at q3
    have fresh : ∀ b o, s.heap.get? b = some o → s.heap.objs.size ≠ b := fun b o e => Nat.ne_of_gt (Heap.lt_size e)
    refine hide fun P_ hP_ => ?_
    obtain ⟨oI, hoI, _⟩ := id h5
    refine hP_ ?_
    clear hP_ P_
    refine hQ s.heap.objs.size #[.int i s.toks, vs[i]] h' _ ⟨_, _, rfl, List.getElem?_eq_getElem hl⟩ ⟨_, q5, rfl, _, rfl⟩ (fun hm => ?_) ⟨q1, q6 _ _ D.TIz D.TITO D.TIr D.TII h2, ⟨_, _, q2⟩, q3, q4⟩ fun b o hb e => q6 b o (fun z => hb (by simp [z])) (fun z => hb (by simp [z])) (fun z => hb (by simp [z])) (fun z => hb (by simp [z])) e
    simp only [List.mem_cons, List.not_mem_nil, or_false] at hm
    rcases hm with z | z | z | z | z
    · exact fresh _ _ h1 z
    · exact fresh _ _ h2 z
    · exact fresh _ _ h3 z
    · exact fresh _ _ h4 z
    · exact fresh _ _ hoI z
  go := fun elts k pos i T s Q E hm kz hQ => by
    refine hide fun P_ hP_ => ?_
    obtain ⟨h1, h2, ⟨u, v, h3⟩, h4, h5⟩ := hm
    refine hP_ ?_
    clear hP_ P_
    exact wpAny_letOwnedTupleGo_zip h1 fun h' q1 sb => hQ h' ⟨q1, sb.extBut _ _ D.TIz h2, ⟨u, v, sb.extBut _ _ D.TOz h3⟩, sb.extBut _ _ D.rz h4, h5.extBut sb.extBut D.Iz⟩ fun b o hb e => sb.extBut _ _ (fun z => hb (by simp [z])) e
  done := fun s Q E st kz hQ => by
    refine hide fun P_ hP_ => ?_
    obtain ⟨h1, h2, ⟨u, v, h3⟩, h4, h5⟩ := st
    refine hP_ ?_
    clear hP_ P_
    refine zipr_end hh D h1 h2 h3 h4 (by (first | lia | omega)) fun h' q => hQ h' s.toks ?_ fun b o hb e => q b o (fun z => hb (by simp [z])) (fun z => hb (by simp [z])) e
    refine hide fun P_ hP_ => ?_
    obtain ⟨o, ho, rr⟩ := h5
    refine hP_ ?_
    clear hP_ P_
    exact ⟨o, q _ _ D.Iz D.rI.symm ho, rr⟩
  self := fun i s Q E st hQ => wpAny_pyIter_zip st.1 hQ
  live := fun i h st b hb => by
    refine hide fun P_ hP_ => ?_
    obtain ⟨h1, h2, ⟨u, v, h3⟩, h4, o, h5, h6⟩ := st
    refine hP_ ?_
    clear hP_ P_
    simp only [List.mem_cons, List.not_mem_nil, or_false] at hb
    rcases hb with rfl | rfl | rfl | rfl | rfl
    · exact ⟨_, h1⟩
    · exact ⟨_, h2⟩
    · exact ⟨_, h3⟩
    · exact ⟨_, h4⟩
    · exact ⟨_, h5⟩

/-- the pairs that zip(range(n), it) gives -/
def zpairs (n : Nat) (ds : List D) : List (List D) := (List.range n).map fun (i : Nat) => [D.int (i : Int), ds.getD i D.none]
section
variable {c : Cx} {Z Y : Zone} {ρ : Vars} {σ : Sto} {s : Shared} {K : Fl → Vars → Sto → Prop} {pos p1 p2 q1 q2 q3 q4 q5 q6 tp : Pos} {R : Rs}

theorem exI_zip (hk : c.Ok) {y xn xi : String} {elt : Expr} {rest : List Stmt} {es : List Expr} {xs : List String} {kk n : Nat} {scope : Scope} {cl : List (Str × Addr)} (hc : Clos c scope cl) (hN : NamesOf es xs) (h2 : xs.length = 2) (hst : ∀ x ∈ xs, scope.names.lookup (Str.ofString x) = some .local)
    (hy : c.env.kindOf (Str.ofString y) = some .local) (hn : ρ xn = some (.d (.int n))) (hnl : c.env.kindOf (Str.ofString xn) = some .local) (hnd : (Str.ofString xn == ("__debug__" : Str)) = false) (hi : ρ xi = some (.raw (.ref R.I))) (hil : c.env.kindOf (Str.ofString xi) = some .local) (hid : (Str.ofString xi == ("__debug__" : Str)) = false)
    (n1 : nsIn c.K mainGlobals (Str.ofString "zip") = some none) (k1 : c.env.kindOf (Str.ofString "zip") = some .globalImplicit)
    (n2 : nsIn c.K mainGlobals (Str.ofString "range") = some none) (k2 : c.env.kindOf (Str.ofString "range") = some .globalImplicit)
    (hnd2 : n ≤ R.ds.length) (hz : n ≤ 1000000)
    (hsw : swapsWith (.ListComp elt [⟨.Tuple es kk tp, .Call (.Name (Str.ofString "zip") q1) [.Call (.Name (Str.ofString "range") q2) [.Name (Str.ofString xn) q3] [] q4, .Name (Str.ofString xi) q5] [] q6, [], 0⟩] scope p2) (some (.Name (Str.ofString y) p1)) pos.line c.env = pure true)
    (h : CompP c ρ σ xs elt scope cl (zpairs n R.ds) (fun acc σ2 => NewL (fun v σ3 => ExI R n c (ρ.set y v) σ3 rest K) σ2 acc)) :
    ExI R 0 c ρ σ (.Assign [.Name (Str.ofString y) p1] (.ListComp elt [⟨.Tuple es kk tp, .Call (.Name (Str.ofString "zip") q1) [.Call (.Name (Str.ofString "range") q2) [.Name (Str.ofString xn) q3] [] q4, .Name (Str.ofString xi) q5] [] q6, [], 0⟩] scope p2) pos :: rest) K := fun Z Y s Q X S r q => by
  refine hide fun P_ hP_ => ?_
  obtain ⟨ra, rit, rF, rdt⟩ := r
  refine hP_ ?_
  clear hP_ P_
  have hF : ∀ b ∈ [R.F], Apart c Z Y σ b := fun b hb => ra b (.tail _ hb)
  have hFx : ∀ b ∈ [R.F], ∃ o, s.heap.get? b = some o := fun b hb => by
    refine hide fun P_ hP_ => ?_
    obtain ⟨o, es, ep, e, _⟩ := rF
    refine hP_ ?_
    clear hP_ P_
    rcases List.mem_cons.mp hb with rfl | hb
    · exact ⟨o, e⟩
    · cases hb
  have SH := S.hold hF
  refine wpAny_execs_cons ?_
  rw [exec_Assign_Name_used _ _ _ _ hsw]
  refine wpAny_bind (wpAny_standAt (wpAny_bind ?_))
  show wpAny _ c.A (do let _ ← comprehension (.ListComp elt [⟨.Tuple es kk tp, .Call (.Name (Str.ofString "zip") q1) [.Call (.Name (Str.ofString "range") q2) [.Name (Str.ofString xn) q3] [] q4, .Name (Str.ofString xi) q5] [] q6, [], 0⟩] scope p2) scope c.env _ (newList []) false (eval (.Call (.Name (Str.ofString "zip") q1) [.Call (.Name (Str.ofString "range") q2) [.Name (Str.ofString xn) q3] [] q4, .Name (Str.ofString xi) q5] [] q6) c.env) (some (assign (.Name (Str.ofString y) p1) c.env))) _ _ s
  refine wpAny_bind (wpAny_mono (wpAny_comprehension_free (use := some (assign (.Name (Str.ofString y) p1) c.env)) (Q := fun _ s' => wpAny (model c.prog c.w) c.A (execs rest c.env) Q X s') rfl (fun _ => rfl) hc.clos hc.kind hc.names ?_) (fun _ s' hq => wpAny_pure (wpAny_pure hq)) fun _ _ e => e)
  -- zip(range(n), it)
  refine Call_Name rfl (name_builtin hk SH n1 (by first | rfl | decide) k1 (by decide) (by decide) ?_)
  refine PyProof.Rows.callWith_type1 (rest := [.Name (Str.ofString xi) q5]) (wpAny_items_cons ?_ rfl) rfl rfl
  refine Call_Name rfl (name_builtin hk SH n2 (by first | rfl | decide) k2 (by decide) (by decide) ?_)
  refine hide fun P_ hP_ => ?_
  obtain ⟨m, u, hm1, hm2, hm3⟩ := SH.get hn hnl
  refine hP_ ?_
  clear hP_ P_
  cases hm3
  rename_i t
  refine PyProof.Rows.callWith_type1 (rest := []) (wpAny_items_cons (wpAny_Name (wpAny_loadName_local hk.fn hnl hm1 hm2 (wpAny_items_nil ?_)) hnd) rfl) rfl rfl
  refine call_range_1 ?_
  have S3 := SH.grow hk (tk := s.toks + 1 + 1) (h' := s.heap.push { cls := .type "range", data := .fields #[.int 0 s.toks, .int n t, .int 1 (s.toks + 1)] }) fun b o e => Heap.get?_push_of_some _ e
  refine hide fun P_ hP_ => ?_
  obtain ⟨m', u', hm1', hm2', hm3'⟩ := S3.get hi hil
  refine hP_ ?_
  clear hP_ P_
  cases hm3'
  refine wpAny_items_cons (wpAny_Name (wpAny_loadName_local hk.fn hil hm1' hm2' (wpAny_items_nil ?_)) hid) rfl
  generalize hds : R.ds = ds at rdt h hnd2
  generalize ha : R.a = aa at rdt rit
  cases rdt using Rv.lstE with
  | lst e rr =>
    rename_i vs nn
    have hlen := rr.length
    have hne : aa ≠ R.I := fun z => by rw [z, (ra _ (.head _)).z] at e; cases e
    have hIF : R.I ≠ R.F := fun z => by
      refine hide fun P_ hP_ => ?_
      obtain ⟨o', es, ep, ho', hd', _⟩ := rF
      refine hP_ ?_
      clear hP_ P_
      refine hide fun P_ hP_ => ?_
      obtain ⟨o, ho, rr⟩ := rit
      refine hP_ ?_
      clear hP_ P_
      rw [← z, ho] at ho'; cases ho'
      rw [rr.2] at hd'; cases hd'
    have la : @LT.lt Nat _ aa s.heap.objs.size := Heap.lt_size (S.g.keep _ _ e)
    have lI : @LT.lt Nat _ R.I s.heap.objs.size := by obtain ⟨o, ho, _⟩ := rit; exact Heap.lt_size ho
    have lF : R.F < s.heap.objs.size := by obtain ⟨o, _, _, ho, _⟩ := rF; exact Heap.lt_size ho
    have sz : (s.heap.push { cls := .type "range", data := .fields #[.int 0 s.toks, .int n t, .int 1 (s.toks + 1)] }).objs.size = s.heap.objs.size + 1 := Heap.size_push ..
    have rit3 : (s.heap.push { cls := .type "range", data := .fields #[.int 0 s.toks, .int n t, .int 1 (s.toks + 1)] }).IsListIter R.I aa 0 := rit.at fun o e => Heap.get?_push_of_some _ e
    have hr3 : IsRange (s.heap.push { cls := .type "range", data := .fields #[.int 0 s.toks, .int n t, .int 1 (s.toks + 1)] }) s.heap.objs.size 0 n 1 s.toks t (s.toks + 1) := Heap.get?_push_size _ rfl
    refine call_zipr (s := { s with heap := s.heap.push { cls := .type "range", data := .fields #[.int 0 s.toks, .int n t, .int 1 (s.toks + 1)] }, toks := s.toks + 1 + 1 }) hr3 rit3 hz fun h' g1 g2 g3 g4 kk' => ?_
    have S4 := S3.grow hk (tk := s.toks + 1 + 1) (h' := h') kk'
    dsimp only at g1 g2 g3 g4 kk' ⊢
    generalize hH1 : s.heap.push { cls := .type "range", data := .fields #[.int 0 s.toks, .int n t, .int 1 (s.toks + 1)] } = H1 at g1 g2 g3 g4 kk' sz rit3 hr3 S3 ⊢
    refine wpAny_pyIter_zip (s := { s with heap := h', toks := s.toks + 1 + 1 }) g1 ?_
    have DA : ZA (H1.objs.size + 3) (H1.objs.size + 1) (H1.objs.size + 2) H1.objs.size R.I aa := by
      rw [sz]
      constructor <;> first | exact hne | exact neN (by (first | lia | omega))
    have fr : ∀ j, Apart c Z (holdY [R.F] Y s) σ (H1.objs.size + j) := fun j => Apart.fresh (s := { s with heap := H1, toks := s.toks + 1 + 1 }) S3 (Heap.get?_none_of_le (Nat.le_add_right _ _))
    have apI : Apart c Z (holdY [R.F] Y s) σ R.I := by
      have q := ra R.I (.head _)
      refine ⟨q.z, ?_, q.s, q.o, q.c⟩
      unfold holdY; rw [if_neg (fun z => by rcases List.mem_cons.mp z with z | z; exact hIF z; cases z)]; exact q.y
    have W := walk_zipr (prog := c.prog) (w := c.w) hk.hand e DA (n := n) (by (first | lia | omega))
    refine comp_blockP (RR := fun acc C => compPost (model c.prog c.w) c.A X (some (assign (.Name (Str.ofString y) p1) c.env)) (fun _ s' => wpAny (model c.prog c.w) c.A (execs rest c.env) Q X s') acc C) (items := zpairs n ds) hk (by simp [zpairs]) hc hN hst S4 W (fun i vals d hv hd => ?_) (fun d hd => ?_) (by simp [zpairs]; (first | lia | omega))
      ⟨g1, g2, ⟨_, _, g3⟩, by simpa using g4, rit3.at fun o e => kk' _ o e⟩ (fun b hb => ?_) h fun D0 C Z' σ' s' ws m acc x2 S' e1 e2 e3 e4 e5 e6 aH nD nC en e7 => ?_
    · refine hide fun P_ hP_ => ?_
      obtain ⟨t', v, rfl, hv⟩ := hv
      refine hP_ ?_
      clear hP_ P_
      unfold zpairs at hd
      rw [List.getElem?_map] at hd
      have hi : i < n := by
        rcases Nat.lt_or_ge i n with hi | hi
        · exact hi
        · rw [List.getElem?_eq_none (by simpa using hi)] at hd; simp at hd
      rw [List.getElem?_range hi] at hd
      simp only [Option.map_some, Option.some.injEq] at hd
      subst hd
      refine hide fun P_ hP_ => ?_
      obtain ⟨v', hv', rv⟩ := rr.get (i := i) (d := ds.getD i D.none) (getD_get (by (first | lia | omega)))
      refine hP_ ?_
      clear hP_ P_
      rw [hv] at hv'; cases hv'
      exact .cons (.int _ _) (.cons rv .nil)
    · unfold zpairs at hd
      refine hide fun P_ hP_ => ?_
      obtain ⟨i, -, rfl⟩ := List.mem_map.mp hd
      refine hP_ ?_
      clear hP_ P_
      simp [h2]
    · simp only [List.mem_cons, List.not_mem_nil, or_false] at hb
      rcases hb with rfl | rfl | rfl | rfl | rfl
      · exact fr 3
      · exact fr 1
      · exact fr 2
      · exact fr 0
      · exact apI
    · have hds3 := rr
      refine hide fun P_ hP_ => ?_
      obtain ⟨Z3, v, σ3, x3, rv, kv, S3', ap⟩ := S'.joinL hk e3 e1 e2 e7
      refine hP_ ?_
      clear hP_ P_
      have aI' := aH R.I (by simp)
      have nDI : R.I ≠ D0 := fun z => nD (by rw [← z]; simp)
      have nCI : R.I ≠ C := fun z => nC (by rw [← z]; simp)
      have hA : ∀ b ∈ [C, R.I], Apart c Z3 (holdY [R.F] Y s) σ3 b := mem2 (ap _ e6 e5) (ap _ nDI aI')
      refine hide fun P_ hP_ => ?_
      obtain ⟨m', oC, esC, ep, e9, rrC⟩ := e4
      refine hP_ ?_
      clear hP_ P_
      refine hide fun P_ hP_ => ?_
      obtain ⟨oI, hoI, rrI⟩ := en
      refine hP_ ?_
      clear hP_ P_
      have hAx : ∀ b ∈ [C, R.I], ∃ o, s'.heap.get? b = some o := mem2 (⟨_, e9⟩) (⟨_, hoI⟩)
      show wpAny _ c.A (assign (.Name (Str.ofString y) p1) c.env (.ref D0)) _ _ _
      refine wpAny_assign_Name (store_local hk hy (S3'.hold hA) rv fun s4 S4' => ?_)
      refine ⟨m', ⟨oC, esC, ep, (S4'.g.held (.head _) e9).2.2, rrC⟩, fun h5 sb => ?_⟩
      have S5 := S3'.unhold hA S4'
      have aft := Apart.after hA S4' hAx
      have hoI4 := (S4'.g.held (.tail _ (.head _)) hoI).2.2
      have S6 := S5.keepBut hk (tk := s4.toks) (h' := h5) (wr := [C]) (fun b hb => by rcases List.mem_cons.mp hb with rfl | hb; exact aft _ (.head _); cases hb) fun b o hb e => (sb.2 b (fun z => hb (by rw [z]; exact .head _))).trans e
      have S7 := S.unhold hF S6
      have aF := Apart.after hF S6 hFx
      have aI6 := aft R.I (.tail _ (.head _))
      refine hide fun P_ hP_ => ?_
      obtain ⟨oF, esF, epF, hoF, rrF⟩ := rF
      refine hP_ ?_
      clear hP_ P_
      refine kv Z3 Y _ Q X S7 ⟨fun b hb => ?_, ?_, ⟨oF, esF, epF, (S6.g.held (.head _) hoF).2.2, rrF⟩, ?_⟩ fun Z' f g ρ' σ' s' x4 => q Z' f g ρ' σ' s' ((x2.trans x3).trans x4)
      · rcases List.mem_cons.mp hb with rfl | hb
        · exact ⟨aI6.z, (ra _ (.head _)).y, aI6.s, aI6.o, aI6.c⟩
        · exact aF b hb
      · rw [ha]
        exact ⟨oI, (sb.2 _ nCI).trans hoI4, rrI⟩
      · rw [ha, hds]
        exact .lst ((x2.trans x3) _ _ e) (rr.mono (x2.trans x3))
end
end Mine
namespace Mine
open PySem.SeqAt Classical

/-! ### sorted(.., key=None, reverse=b) of ints -/
theorem list_sort_nokey (x : Addr) (b : Bool) : Builtin.«list.sort» ⟨[.ref x], [(Str.ofString "key", .none), (Str.ofString "reverse", .bool b)]⟩ = Builtin.«list.sort» ⟨[.ref x], [(Str.ofString "reverse", .bool b)]⟩ := by
  rw [list_sort_rev]
  rfl
section
variable {prog : Program} {w : World} {A : Around} {E : Value → Shared → Prop} {s : Shared}
theorem sorted_rev_nokey {l : Addr} {vs : List Value} {ns : List Int} {b : Bool} {Q : Value → Shared → Prop} (hl : s.heap.IsList l vs.toArray) (hI : IntsAre vs ns) (h64 : vs.length < 64)
    (h : ∀ (out : Array Value) (ns' : List Int), IntsAre out.toList ns' → ns'.Perm ns → Ordered b ns' → Q (.ref (s.heap.objs.size + 1)) { s with heap := sortedAll s.heap vs out }) :
    wpAny (model prog w) A (call (.builtin "sorted") [.ref l] [(Str.ofString "key", .none), (Str.ofString "reverse", .bool b)]) Q E s := by
  refine call_function_entry_kw kind_sorted plain_sorted entry_sorted (ksk_s2 _ _ _) ?_
  unfold Builtin.«sorted»
  refine wpAny_bind (m := checkCount "sorted" 1 1 _) (wpAny_pure ?_)
  refine wpAny_bind (collect_list hl ?_)
  refine wpAny_bind (wpAny_newList ?_)
  have hsz : ((s.heap.push (seqObj "list" #[] 0)).update s.heap.objs.size (Obj.mapSeq (· ++ vs.toArray))).objs.size = s.heap.objs.size + 1 := by
    rw [Heap.size_update, size_push']
  have hoL : (((s.heap.push (seqObj "list" #[] 0)).update s.heap.objs.size (Obj.mapSeq (· ++ vs.toArray))).push (seqObj "list" vs.toArray 0)).get? (s.heap.objs.size + 1) = some (seqObj "list" vs.toArray 0) := by
    rw [← hsz]; exact Heap.get?_push_size _ rfl
  show wpAny _ _ _ _ _ { s with heap := ((s.heap.push (seqObj "list" #[] 0)).update s.heap.objs.size (Obj.mapSeq (· ++ vs.toArray))).push (seqObj "list" vs.toArray 0) }
  rw [hsz]
  refine wpAny_bind (wpAny_holding (wpAny_call_entry_kw slot_list_sort ⟨_, hoL, rfl⟩ entry_list_sort ?_ (ksk_l2 _ _ _)))
  rw [list_sort_nokey]
  refine list_sort_tree_rev (s := { s with heap := ((s.heap.push (seqObj "list" #[] 0)).update s.heap.objs.size (Obj.mapSeq (· ++ vs.toArray))).push (seqObj "list" vs.toArray 0) }) hoL hI h64 fun out ns' a1 a2 a3 => ⟨_, rfl, ?_⟩
  exact wpAny_pure ⟨_, rfl, h out ns' a1 a2 a3⟩
end

section
variable {c : Cx} {Z Y : Zone} {ρ : Vars} {σ : Sto} {s : Shared} {pos p1 p2 p3 tp : Pos}
theorem sorted_kw (hk : c.Ok) {K : V → Sto → Prop} {e kx : Expr} {p4 p5 p6 : Pos} (n1 : nsIn c.K mainGlobals (Str.ofString "sorted") = some none) (k1 : c.env.kindOf (Str.ofString "sorted") = some .globalImplicit)
    (he : starEach [e] c.env = [(false, eval e c.env)])
    (h : Ev c ρ σ e fun v σ1 => Ev c ρ σ1 kx fun vk σ2 => vk = .d .none ∧ ∃ ns : List Int, A3 (Vw σ2 v (.lst (ns.map D.int))) (ns.length < 64) (∀ es : List Int, es.Perm ns → es.Pairwise (· ≥ ·) → NewL K σ2 (es.map D.int))) :
    Ev c ρ σ (.Call (.Name (Str.ofString "sorted") p1) [e] [⟨some (Str.ofString "key"), kx, p2⟩, ⟨some (Str.ofString "reverse"), .Constant (.bool true) 0 p4, p5⟩] p6) K := fun Z Y s Q X S q => by
  refine PySem.wpAny_Call_Name_kw (name_builtin hk S n1 (by first | rfl | decide) k1 (by decide) (by decide) ?_)
  refine callWith_kw ?_ (by rw [he] <;> rfl) (by rw [he] <;> rfl) (by rfl) (by rfl)
  refine wpAny_items_cons (h Z Y s _ X S fun Z1 u v σ1 s1 x1 r1 h1 S1 => wpAny_items_nil ?_) (by rw [he] <;> rfl)
  refine kws_cons (h1 Z1 Y s1 _ X S1 fun Z2 u2 v2 σ2 s2 x2 r2 h2 S2 => ?_)
  refine hide fun P_ hP_ => ?_
  obtain ⟨rfl, ns, hv, h64, hfin⟩ := h2
  refine hP_ ?_
  clear hP_ P_
  (first | cases r2 using Rv.intE | cases r2 using Rv.boolE | cases r2 using Rv.noneE | cases r2 using Rv.lstE | cases r2 using Rv.tupE | cases r2 using RVs.nilE | cases r2 using Rvs.nilE | cases r2)
  refine kws_cons (wpAny_Constant_bool (kws_nil ?_))
  refine hide fun P_ hP_ => ?_
  obtain ⟨a, vs, n, rfl, g1, g2⟩ := hv.list S2 (r1.mono x2)
  refine hP_ ?_
  clear hP_ P_
  have hlen := g2.length
  rw [List.length_map] at hlen
  show wpAny _ _ (call (.builtin "sorted") [.ref a] [(Str.ofString "key", .none), (Str.ofString "reverse", .bool true)]) _ _ _
  refine sorted_rev_nokey (IsL.isList g1) g2.ints (by (first | lia | omega)) fun out ns' a1 a2 a3 => ?_
  obtain ⟨ep, hat⟩ := sortedAll_at s2.heap vs out
  have S3 := S2.grow hk (tk := s2.toks) (h' := sortedAll s2.heap vs out) fun b o e => sortedAll_old e
  have ho : (sortedAll s2.heap vs out).get? (s2.heap.objs.size + 1) = some (lobj out.toList ep) := by
    rw [hat]
  refine hide fun P_ hP_ => ?_
  obtain ⟨Z', v', σ', xx, rv, kv, S4, -⟩ := S3.joinL hk (Apart.fresh S2 (Heap.get?_none_of_le (Nat.le_succ _))) ho (IntsAre.rvs a1) (hfin ns' a2 a3)
  refine hP_ ?_
  clear hP_ P_
  exact q Z' _ v' σ' _ ((x1.trans x2).trans xx) rv kv S4

/-- try: .. that does not raise -/
theorem ex_try {K : Fl → Vars → Sto → Prop} {body orelse : List Stmt} {h0 : ExceptHandler} {hs : List ExceptHandler} (h : Ex c ρ σ body fun f ρ1 σ1 => match f with | .next => Ex c ρ1 σ1 orelse K | f => K f ρ1 σ1) :
    Ex1 c ρ σ (.Try body (h0 :: hs) orelse [] pos) K := fun Z Y s Q X S q =>
  wpAny_Try_except (h Z Y s _ _ S fun Z1 f g ρ1 σ1 s1 x1 r1 h1 S1 => by
    cases r1 with
    | next => exact h1 Z1 Y s1 Q X S1 fun Z2 f2 g2 ρ2 σ2 s2 x2 r2 k2 S2 => q Z2 f2 g2 ρ2 σ2 s2 (x1.trans x2) r2 k2 S2
    | brk => exact q Z1 _ _ ρ1 σ1 s1 x1 .brk h1 S1
    | cont => exact q Z1 _ _ ρ1 σ1 s1 x1 .cont h1 S1
    | ret hr => exact q Z1 _ _ ρ1 σ1 s1 x1 (.ret hr) h1 S1)

/-! ### a comprehension over a frozen list of tuples -/
theorem walk_pairs {prog : Program} {w : World} {A : Around} {Z : Zone} {I a : Addr} {vs : List Value} {nn : Nat} {items : List (List D)} (hh : A.handled = none) (hZ : Z a = some (lobj vs nn)) (rr : Rvs Z vs (items.map D.tup)) (hI : Z I = none) :
    WalkP prog w A Z I [I] items.length (fun i vals => ∃ d, items[i]? = some d ∧ Rvs Z vals.toList d) (fun i h => h.IsListIter I a i) (fun i T h => h.IsListIter I a (i + 1)) (fun _ => True) where
  frame := fun i h h' st k _ => by
    refine hide fun P_ hP_ => ?_
    obtain ⟨o, e, r⟩ := st
    refine hP_ ?_
    clear hP_ P_
    exact ⟨o, k _ (.head _) o e, r⟩
  item := fun i s Q E hi st kz hQ => by
    refine hide fun P_ hP_ => ?_
    obtain ⟨v, hv, rv⟩ := rr.get (i := i) (d := .tup items[i]) (by simp [hi])
    refine hP_ ?_
    clear hP_ P_
    cases rv using Rv.tupE with
    | tup e r =>
      rename_i T us n
      refine wpAny_pyNext_list_item st (isList_of kz hZ) (x := .ref T) (by rw [List.getElem?_toArray]; exact hv) fun h' st' sb => ?_
      have TI : T ≠ I := fun z => by rw [z, hI] at e; cases e
      exact hQ T us.toArray h' s.toks ⟨items[i], List.getElem?_eq_getElem hi, by simpa using r⟩ ⟨_, (sb.2 _ TI).trans (kz _ _ e), rfl, n, rfl⟩ (fun z => by rcases List.mem_cons.mp z with z | z; exact TI z; cases z) st' fun b o hb e => sb.extBut b o (fun z => hb (by rw [z]; exact .head _)) e
  go := fun elts k pos i T s Q E hm kz hQ => wpAny_letOwnedTupleGo_listiter hm (hQ _ hm fun _ _ _ e => e)
  done := fun s Q E st kz hQ => wpAny_pyNext_list_end hh st (isList_of kz hZ) (by rw [List.getElem?_toArray]; simp; rw [rr.length]; simp) fun h' he => hQ h' s.toks trivial fun b o hb e => he b o (fun z => hb (by rw [z]; exact .head _)) e
  self := fun i s Q E st hQ => wpAny_pyIter_listiter st hQ
  live := fun i h st b hb => by
    refine hide fun P_ hP_ => ?_
    obtain ⟨o, e, r⟩ := st
    refine hP_ ?_
    clear hP_ P_
    rcases List.mem_cons.mp hb with rfl | hb
    · exact ⟨o, e⟩
    · cases hb
theorem ev_compPL (hk : c.Ok) {K : V → Sto → Prop} {elt iter : Expr} {es : List Expr} {xs : List String} {kk : Nat} {scope : Scope} {cl : List (Str × Addr)} (hc : Clos c scope cl) (hN : NamesOf es xs) (hst : ∀ x ∈ xs, scope.names.lookup (Str.ofString x) = some .local)
    (h : Ev c ρ σ iter fun v σ1 => ∃ items : List (List D), A4 (v = .d (.lst (items.map D.tup))) (∀ d ∈ items, d.length = xs.length) (items.length ≤ 1000000) (CompP c ρ σ1 xs elt scope cl items (fun acc σ2 => NewL K σ2 acc)))
    (hs : ∀ x, foldedSetIterable iter c.env x = pure x) : Ev c ρ σ (.ListComp elt [⟨.Tuple es kk tp, iter, [], 0⟩] scope pos) K := fun Z Y s Q X S q => by
  rw [eval_ListComp]
  refine wpAny_comprehension_free (use := none) rfl hs hc.clos hc.kind hc.names (h Z Y s _ X S fun Z1 u v σ1 s1 x1 r1 h1 S1 => ?_)
  refine hide fun P_ hP_ => ?_
  obtain ⟨items, rfl, hlen, hz, cp⟩ := h1
  refine hP_ ?_
  clear hP_ P_
  cases r1 using Rv.lstE with
  | lst e r =>
    rename_i a vs nn
    refine wpAny_pyIter_list (isList_of S1.g.keep e) ?_
    have S2 := S1.grow hk (tk := s1.toks) (h' := s1.heap.push { cls := .type "list_iterator", data := .fields #[.ref a, .int 0 0] }) fun b o e => Heap.get?_push_of_some _ e
    have aI : Apart c Z1 Y σ1 s1.heap.objs.size := Apart.fresh S1 (get_size _)
    refine comp_blockP (RR := fun acc C => compPost (model c.prog c.w) c.A X none Q acc C) (items := items) hk rfl hc hN hst S2 (walk_pairs hk.hand e r aI.z) (fun i vals d hv hd => ?_) hlen hz ⟨_, get_push rfl, rfl, rfl⟩ (mem1 aI) cp
      fun D0 C Z' σ' s' ws m acc x2 S' e1 e2 e3 e4 e5 e6 aH nD nC en e7 => ?_
    · refine hide fun P_ hP_ => ?_
      obtain ⟨d', h1, h2⟩ := hv
      refine hP_ ?_
      clear hP_ P_
      rw [hd] at h1; cases h1; exact h2
    · obtain ⟨m', hm'⟩ := e4
      refine ⟨m', hm', fun h' sb => ?_⟩
      have S3 := S'.keepBut hk (tk := s'.toks) (h' := h') (wr := [C]) (mem1 e5) fun b o hb e => (sb.2 b (ne_mem1 hb)).trans e
      refine hide fun P_ hP_ => ?_
      obtain ⟨Z3, v, σ3, x3, rv, kv, S4, -⟩ := S3.joinL hk e3 ((sb.2 _ (Ne.symm e6)).trans e1) e2 e7
      refine hP_ ?_
      clear hP_ P_
      exact q Z3 _ v σ3 _ ((x1.trans x2).trans x3) rv kv S4
end
end Mine
namespace Mine
open PySem.SeqAt Classical
section
variable {c : Cx} {Z Y : Zone} {ρ : Vars} {σ : Sto} {s : Shared} {K : V → Sto → Prop} {pos p1 p2 p3 tp : Pos}
/-- a list of the store changes; the frame's object still says the same -/
theorem St.keepLU (S : St c Z Y ρ σ s) (hk : c.Ok) {a : Addr} {l l' : List D} {vs : List Value} {n : Nat} {h' : Heap} {tk : Nat} (hl : σ a = some l) (k : ∀ b o, b ≠ a → b ≠ c.env.locals → s.heap.get? b = some o → h'.get? b = some o) {m : Str → Option Value} (hn : h'.Ns c.env.locals m)
    (hm : ∀ x v, ρ x = some v → c.env.kindOf (Str.ofString x) = some .local → ∃ u, m (Str.ofString x) = some u ∧ RV Z u v) (ho : h'.get? a = some (lobj vs n)) (r : Rvs Z vs l') : St c Z Y ρ (σ.set a l') { s with heap := h', toks := tk } := by
  refine hide fun P_ hP_ => ?_
  obtain ⟨o1, o2, o3, -⟩ := S.own _ hk.L
  refine hP_ ?_
  clear hP_ P_
  refine hide fun P_ hP_ => ?_
  obtain ⟨f1, f2, -⟩ := S.g.lists a l hl
  refine hP_ ?_
  clear hP_ P_
  have hoa : ∀ b ∈ c.own, b ≠ a := fun b hb z => by have := (S.own b hb).2.2.1; rw [z, hl] at this; cases this
  have hca : ∀ x b, c.env.cells.lookup x = some b → b ≠ a := fun x b e z => by have := S.notCell x b e; rw [z, hl] at this; cases this
  refine ⟨⟨by rw [S.g.same], S.g.base, fun b o e => k b o (fun q => ?_) (fun q => ?_) (S.g.keep b o e), fun b o e => k b o (fun q => ?_) (fun q => ?_) (S.g.keepY b o e), S.g.zy, fun b l2 e => ?_⟩, ⟨m, hn, hm⟩, fun y v e hy => ?_, fun y b e => ?_, fun b hb => ?_⟩
  · rw [q, f1] at e; cases e
  · rw [q, o1] at e; cases e
  · rw [q, f2] at e; cases e
  · rw [q, o2] at e; cases e
  · simp only [Sto.set] at e
    split at e
    · rename_i q; cases e; rw [q]; exact ⟨f1, f2, vs, n, ho, r⟩
    · rename_i q
      refine hide fun P_ hP_ => ?_
      obtain ⟨h1, h2, vs', n', h3, h4⟩ := S.g.lists b l2 e
      refine hP_ ?_
      clear hP_ P_
      exact ⟨h1, h2, vs', n', k b _ q (fun z => by rw [z, o3] at e; cases e) h3, h4⟩
  · refine hide fun P_ hP_ => ?_
    obtain ⟨b, u, e1, ⟨o, e2, e3⟩, e4⟩ := S.cell y v e hy
    refine hP_ ?_
    clear hP_ P_
    exact ⟨b, u, e1, ⟨o, k _ _ (hca _ _ e1) (hk.notL _ _ e1) e2, e3⟩, e4⟩
  · refine hide fun P_ hP_ => ?_
    obtain ⟨⟨u, o, e2, e3⟩, e4⟩ := S.cells y b e
    refine hP_ ?_
    clear hP_ P_
    exact ⟨⟨u, o, k _ _ (hca _ _ e) (hk.notL _ _ e) e2, e3⟩, e4⟩
  · refine hide fun P_ hP_ => ?_
    obtain ⟨h1, h2, h3, o, h4⟩ := S.own b hb
    refine hP_ ?_
    clear hP_ P_
    refine ⟨h1, h2, by rw [Sto.set_ne _ _ (hoa b hb)]; exact h3, ?_⟩
    by_cases q : b = c.env.locals
    · obtain ⟨oL, _, _, e, _⟩ := hn; rw [q]; exact ⟨oL, e⟩
    · exact ⟨o, k _ _ (hoa b hb) q h4⟩

theorem lsort_core (hk : c.Ok) {a : Addr} {ds : List D} (ha : σ a = some ds) (h2 : 2 ≤ ds.length) (h64 : ds.length < 64)
    (ask : ∀ (Zv : Zone) (s' : Shared) (vs : List Value), (∀ b o, Zv b = some o → s'.heap.get? b = some o) → Rvs Zv vs ds → ∃ κ, (∀ (Q : SortKind → Shared → Prop) (E : Value → Shared → Prop), Q κ s' → wpAny (model c.prog c.w) c.A.in1 (keyKind' vs.toArray) Q E s') ∧
      ∀ x y dx dy, Rv Zv x dx → Rv Zv y dy → dx ∈ ds → dy ∈ ds → ∀ C : Bool → Shared → Prop, C (D.lt dx dy) s' → wpAny (model c.prog c.w) c.A.in1 (keyLt' κ x y) C (fun _ _ => False) s')
    (h : ∀ es : List D, es.Perm ds → es.Pairwise (fun a b => D.lt b a = false) → K (.d .none) (σ.set a es)) : Cl c ρ σ (.builtin "list.sort") [.raw (.ref a)] K := fun Z Y s Q X us S r q => by
  refine hide fun P_ hP_ => ?_
  obtain ⟨u, rfl, ru⟩ := rvs1 r
  refine hP_ ?_
  clear hP_ P_
  cases ru
  refine hide fun P_ hP_ => ?_
  obtain ⟨f1, f2, -⟩ := S.g.lists a ds ha
  refine hP_ ?_
  clear hP_ P_
  refine hide fun P_ hP_ => ?_
  obtain ⟨vs, n, h1, rr⟩ := S.g.isList ha
  refine hP_ ?_
  clear hP_ P_
  have hl := rr.length
  refine hide fun P_ hP_ => ?_
  obtain ⟨m, hns, hm⟩ := S.ns
  refine hP_ ?_
  clear hP_ P_
  have aL : a ≠ c.env.locals := fun z => by have := S.notL hk.L; rw [← z, ha] at this; cases this
  have emp : ∀ a, ({ s.heap with objs := #[] } : Heap).get? a = none := fun a => Heap.get?_none_of_le (Nat.zero_le _)
  have oth : ∀ p ∈ (newsOf s.heap c.env.locals).filter (fun p => decide (p.1 ≠ a)), p.1 ≠ a := fun p hp => by
    have := (List.mem_filter.mp hp).2; simpa using this
  refine kat_lsort (vs := vs) (h₀ := { s.heap with objs := #[] }) (L := c.env.locals) (m := m) (D := a) (its := vs.toArray) (n := n) (news := (a, lobj vs n) :: (newsOf s.heap c.env.locals).filter (fun p => decide (p.1 ≠ a))) (g := fun o => (a, o) :: (newsOf s.heap c.env.locals).filter (fun p => decide (p.1 ≠ a)))
    ⟨hns, fun b o e => absurd e (by rw [emp]; simp), Nat.zero_le _⟩ (fun p hp => ?_) (.head oth) (by simp) (by (first | lia | omega)) (by (first | lia | omega)) fun e1 h' F' N' => ?_
  · rcases List.mem_cons.mp hp with rfl | hp
    · exact ⟨h1, aL, emp _⟩
    · exact newsOf_news emp p (List.mem_filter.mp hp).1
  have keep : ∀ b o, b ≠ a → b ≠ c.env.locals → s.heap.get? b = some o → h'.get? b = some o := fun b o hb hb2 e => (N' (b, o) (.tail _ (List.mem_filter.mpr ⟨newsOf_mem.mpr ⟨hb2, e⟩, by simpa using hb⟩))).1
  have S1 := S.keepLU hk (tk := s.toks) ha keep F'.ns hm (vs := []) (l' := []) (N' _ (.head _)).1 .nil
  refine hide fun P_ hP_ => ?_
  obtain ⟨κ, hκ, hlt2⟩ := ask Z { s with heap := h' } vs S1.g.keep rr
  refine hP_ ?_
  clear hP_ P_
  refine hκ _ _ ?_
  rw [hl]
  refine KOk.wp (n := ds.length) (c := cmpK D.lt fun i => ds.getD i .none) (fun i j C hi hj hC => ?_) (KOk.mono (fun p hp => ?_) (sort_ok TO.ltD (by (first | lia | omega))))
  · refine hide fun P_ hP_ => ?_
    obtain ⟨x, hx, rx⟩ := rr.get (getD_get hi)
    refine hP_ ?_
    clear hP_ P_
    refine hide fun P_ hP_ => ?_
    obtain ⟨y, hy, ry⟩ := rr.get (getD_get hj)
    refine hP_ ?_
    clear hP_ P_
    have ex : vs.getD i Value.none = x := by rw [List.getD_eq_getElem?_getD, hx]; rfl
    have ey : vs.getD j Value.none = y := by rw [List.getD_eq_getElem?_getD, hy]; rfl
    unfold kas_ask
    rw [ex, ey]
    exact hlt2 x y _ _ rx ry (getD_mem hi) (getD_mem hj) C hC
  · obtain ⟨pa, asc⟩ := hp
    refine KasFin.intro (g := fun o => (a, o) :: (newsOf s.heap c.env.locals).filter (fun p => decide (p.1 ≠ a))) F' N' (.head oth) fun h'' c' F'' N'' => ?_
    have keep2 : ∀ b o, b ≠ a → b ≠ c.env.locals → s.heap.get? b = some o → h''.get? b = some o := fun b o hb hb2 e => (N'' (b, o) (.tail _ (List.mem_filter.mpr ⟨newsOf_mem.mpr ⟨hb2, e⟩, by simpa using hb⟩))).1
    have rOut := rr.pick (is := p.toList) fun i hi => List.mem_range.mp (pa.perm.mem_iff.mp hi)
    have S2 := S.keepLU hk (tk := s.toks) ha keep2 F''.ns hm (N'' _ (.head _)).1 rOut
    have per : (p.toList.map fun i => ds.getD i .none).Perm ds := by
      have := pa.perm.map fun i => ds.getD i .none
      rw [pick_range] at this
      exact this
    exact q Z _ _ _ _ (Ext.refl Z) RV.none (h _ per (asc_pairwise TO.ltD pa asc)) S2
end

/-- how tuples, an int first, are compared in a sort -/
theorem ask_tups {prog : Program} {w : World} {A : Around} {ds : List D} {ts : List Ty} (hds : ∀ d ∈ ds, Has (.tup (.int :: ts)) d) (hu : A.units + (Tys.depth ts + 1) < cLine) (h2 : 2 ≤ ds.length) :
    ∀ (Zv : Zone) (s' : Shared) (vs : List Value), (∀ b o, Zv b = some o → s'.heap.get? b = some o) → Rvs Zv vs ds → ∃ κ, (∀ (Q : SortKind → Shared → Prop) (E : Value → Shared → Prop), Q κ s' → wpAny (model prog w) A (keyKind' vs.toArray) Q E s') ∧
      ∀ x y dx dy, Rv Zv x dx → Rv Zv y dy → dx ∈ ds → dy ∈ ds → ∀ C : Bool → Shared → Prop, C (D.lt dx dy) s' → wpAny (model prog w) A (keyLt' κ x y) C (fun _ _ => False) s' := fun Zv s' vs kz r => by
  refine ⟨tuples' true, fun Q E q => ?_, fun x y dx dy rx ry hx hy C hC => ?_⟩
  · refine hide fun P_ hP_ => ?_
    obtain ⟨fs, k1, k2, k3⟩ := katTups kz r hds
    refine hP_ ?_
    clear hP_ P_
    have hl := r.length
    refine kat_kind (T := .type "int") k1 (by (first | lia | omega)) (fun v hv => ?_) (by decide) q
    refine hide fun P_ hP_ => ?_
    obtain ⟨i, t, rfl⟩ := k2 v hv
    refine hP_ ?_
    clear hP_ P_
    exact Looks.of_pure rfl
  · have h1 := hds dx hx
    have h2' := hds dy hy
    cases rx <;> first | (simp [Has] at h1; done) | skip
    rename_i a1 us1 n1 ds1 e1 r1
    cases ry <;> first | (simp [Has] at h2'; done) | skip
    rename_i a2 us2 n2 ds2 e2 r2
    rw [Has] at h1 h2'
    refine kat_lt (kz _ _ e1) rfl (kz _ _ e2) rfl ?_
    have l1 := r1.length
    have l2 := r2.length
    rw [D.lt] at hC
    cases r1 with
    | nil => simp [Hass] at h1
    | cons f1 g1 =>
      cases r2 with
      | nil => simp [Hass] at h2'
      | cons f2 g2 =>
        rw [Hass] at h1 h2'
        cases f1 <;> first | (simp [Has] at h1; done) | skip
        cases f2 <;> first | (simp [Has] at h2'; done) | skip
        rename_i vs1 ds1 ws1 es1 x1 tk1 x2 tk2
        have q1 := hass_len h1.2
        have q2 := hass_len h2'.2
        have len : decide ((Value.int x1 tk1 :: vs1).toArray.size < (Value.int x2 tk2 :: ws1).toArray.size) = false := by
          have := g1.length; have := g2.length
          simp; (first | lia | omega)
        rw [len]
        rw [Ds.lt] at hC
        show KatLex _ _ _ true false C ((Value.int x1 tk1, Value.int x2 tk2) :: vs1.zip ws1) 0 s'
        have eq := rv_eq_lt _ .int (Nat.le_refl _) A Zv s' kz (by simp [Ty.depth]; (first | lia | omega)) (Rv.int x1 tk1) (Rv.int x2 tk2) h1.1 h2'.1
        refine kat_cons (eq.1 prog w _ _ ?_)
        by_cases z : D.int x1 = D.int x2
        · rw [decide_eq_true z]
          rw [if_pos z] at hC
          exact kat_yes (katlex_rest kz (N := Tys.depth ts) (by (first | lia | omega)) 1 (by decide) (Nat.le_refl _) g1 g2 h1.2 h2'.2 hC)
        · rw [decide_eq_false z]
          rw [if_neg z] at hC
          refine kat_no ?_
          rw [show (true && (0 : Nat) == 0) = true from rfl]
          refine oneLt_int ?_
          simpa [D.lt] using hC

section
variable {c : Cx} {Z Y : Zone} {ρ : Vars} {σ : Sto} {s : Shared} {K : V → Sto → Prop} {pos p1 p2 p3 tp : Pos}
/-- o.sort() of a list of the store: tuples, an int first -/
theorem ev_sort (hk : c.Ok) {o : Expr} {pl : Sem Bool} {apos : Pos} {ts : List Ty}
    (he : eval (.Call (.Attribute o "sort" apos) [] [] pos) c.env = (do
      let ov ← eval o c.env
      standAt apos.atName
      let (f, first) ← holding [ov] (getMethod ov "sort" pl)
      callWith pos f first (backTo pos (starEach [] c.env)) (backToKw pos (keywordEach [] c.env))))
    (hu : c.A.units + (Tys.depth ts + 3) < cLine)
    (h : Ev c ρ σ o fun v σ1 => E2 fun a l => A6 (v = .raw (.ref a)) (σ1 a = some l) (2 ≤ l.length) (l.length < 64) (∀ d ∈ l, Has (.tup (.int :: ts)) d) (∀ es : List D, es.Perm l → es.Pairwise (fun a b => D.lt b a = false) → K (.d .none) (σ1.set a es))) :
    Ev c ρ σ (.Call (.Attribute o "sort" apos) [] [] pos) K := by
  refine ev_meth PyProof.Rows.slot_list_sort PySem.F.type_list_sort he (Tr.mono h fun v σ1 h1 => ?_)
  refine hide fun P_ hP_ => ?_
  obtain ⟨a, l, rfl, ha, h2, h64, hd, k⟩ := h1
  refine hP_ ?_
  clear hP_ P_
  refine ⟨a, l, rfl, ha, fun Z Y s Q X S q => ?_⟩
  show wpAny _ _ (callWith pos (.builtin "list.sort") [.ref a] [] []) Q X s
  refine callWith_method0 (env := c.env) ?_
  exact lsort_core hk ha h2 h64 (ask_tups hd (by rw [show c.A.in1.units = c.A.units + 1 from by simp]; (first | lia | omega)) h2) k Z Y s Q X [.ref a] S (.cons RV.raw .nil) q
end

/-! ### a def that is handed an iterator -/
def FnI (K0 : Frag) (prog : Program) (w : World) (r0 : Shared) (dep un : Nat) (f : Addr) (as : List V) (ds : List D) (σ : Sto) (K : V → Sto → Prop) : Prop :=
  ∀ (A : Around) (eF : Env) (R : Rs) (Z Y : Zone) (s : Shared) (Q : Value → Shared → Prop) (X : Value → Shared → Prop) (us : List Value), R.ds = ds → A.handled = none → A.depth + dep < recursionLimit → A.units + un < cLine →
    A.frames = some [eF] → eF.frame = some R.F → eF.scope.kind ≠ .module → Bs K0 r0 → G r0 Z Y σ s → RVs Z us (as ++ [.raw (.ref R.I)]) →
    (∀ b ∈ [R.I, R.F], Z b = none ∧ Y b = none ∧ σ b = none) → s.heap.IsListIter R.I R.a 0 → s.heap.Ns R.F R.mF → Rv Z (.ref R.a) (.lst R.ds) →
    (∀ Z' u v σ' s', Ext Z Z' → RV Z' u v → K v σ' → G r0 Z' Y σ' s' → Z' R.F = none → σ' R.F = none → s'.heap.Ns R.F R.mF → Q u s') → wpAny (model prog w) A (call (.ref f) us) Q X s

theorem fnI_go {K0 : Frag} {prog : Program} {w : World} {r0 : Shared} {dep un : Nat} {f : Addr} {σ : Sto} {as : List V} {ds : List D} {as' : Addr → List V} {K : V → Sto → Prop} {o : Obj} {fd : FuncData} {body : List Stmt} {xs : List String} {sc : Scope}
    (ho : K0.lookup f = some o) (hfd : o.data = .func fd) (hcd : codeIn K0 fd.code fd.qualname = true) (hbody : fd.body = .stmts body) (hsc : fd.scope = sc)
    (hbind : ∀ (I : Addr) (s : Shared) (Z : Zone) (us : List Value), K0.In s.heap → RVs Z us (as ++ [.raw (.ref I)]) → ∃ us', A3 (RVs Z us' (as' I)) (us'.length = xs.length) (BindsTo s fd ⟨us, []⟩ ((xs.map Str.ofString).zip us')))
    (hkind : ∀ x ∈ xs, sc.names.lookup (Str.ofString x) = some .local ∨ (sc.names.lookup (Str.ofString x) = some .cell ∧ ((cellsFrom 0 sc.names []).lookup (Str.ofString x)).isSome = true))
    (hclo : fd.closure = []) (hglob : fd.globals = mainGlobals) (hblt : fd.builtins = builtinsNs)
    (hco : sc.isCoroutine = false) (hgen : sc.isGenerator = false) (hk : sc.kind = .function)
    (h : ∀ (c : Cx) (R : Rs) (eF : Env), Wk K0 prog w r0 sc dep un c → (∃ n, c.env.cells = cellsFrom n sc.names []) → c.Owner → Frm c R eF → R.ds = ds → ExI R 0 c (noVars.setAll xs (as' R.I)) σ body (Fin K)) :
    FnI K0 prog w r0 (dep + 1) (un + 3) f as ds σ K := by
  subst hsc
  intro A eF R Z Y s Q X us hds hh hd hu hfs hfF hkF bs g r hap hit hns hdt q
  refine hide fun P_ hP_ => ?_
  obtain ⟨us', r', hl', hb⟩ := hbind R.I s Z us (fun a o e => g.keep a o (g.base a o (bs.K a o e))) r
  refine hP_ ?_
  clear hP_ P_
  have kIn : K0.In s.heap := fun a o e => g.keep a o (g.base a o (bs.K a o e))
  refine wpAny_call ?_
  refine codeAny_call_function (by (first | lia | omega)) (kIn _ _ ho) hfd hco hgen hbody (codeRec_of kIn hcd) (hb _ _ _ _ ?_)
  rw [hclo]
  refine wpAny_newFunctionEnv_cells hk (fun x hx => ?_) fun env he s₁ x => ?_
  · obtain ⟨y, hy, e⟩ : ∃ y ∈ xs, x.1 = Str.ofString y := by
      have h1 := (List.of_mem_zip (show (x.1, x.2) ∈ _ from hx)).1
      refine hide fun P_ hP_ => ?_
      obtain ⟨y, hy, e⟩ := List.mem_map.mp h1
      refine hP_ ?_
      clear hP_ P_
      exact ⟨y, hy, e.symm⟩
    rw [e]
    refine (hkind y hy).imp id fun ⟨h1, h2⟩ => ⟨h1, ?_⟩
    rw [cells_some (s.heap.objs.size + 1) 0 _ [] [] rfl]; exact h2
  · have he' : env = callEnvC fd s.heap.objs.size f := he
    subst he'
    have hlim : s₁.heap.NoLimit := by
      have h0 := bs.lim
      exact (h0.keeps fun a o e => g.keep a o (g.base a o e)).keeps x.toInCall.keep
    refine ⟨hlim, codeAny_func ?_⟩
    have exI : ∀ b ∈ [R.I, R.F], b < s.heap.objs.size := mem2 (let ⟨o, e, _⟩ := hit; Heap.lt_size e) (hns.lt)
    generalize hL : s.heap.objs.size = L at x exI
    have hk' : (fx K0 prog w r0 A fd L f).Ok := {
      bs := bs
      glob := hglob
      blt := hblt
      hand := hh
      L := .head _
      fn := hk
      inj := fun y z a h1 h2 => name_of_addr x.apart (mem_of_lookup h1) (mem_of_lookup h2)
      notL := fun y a h1 => Nat.ne_of_gt (x.above _ _ (mem_of_lookup h1)) }
    have hw : (fx K0 prog w r0 A fd L f).Owner := fun y a h1 => List.mem_cons_of_mem _ (List.mem_filterMap.mpr ⟨(y, a), mem_of_lookup h1, h1⟩)
    have above : ∀ a ∈ (fx K0 prog w r0 A fd L f).own, L ≤ a := fun a ha => by
      rcases List.mem_cons.mp ha with rfl | ha
      · exact Nat.le_refl _
      · refine hide fun P_ hP_ => ?_
        obtain ⟨⟨n, a'⟩, hm, h1⟩ := List.mem_filterMap.mp ha
        refine hP_ ?_
        clear hP_ P_
        exact Nat.le_of_lt (x.above n _ (mem_of_lookup h1))
    have gone : ∀ a, L ≤ a → Z a = none ∧ Y a = none ∧ σ a = none := fun a ha => g.fresh (Heap.get?_none_of_le (by rw [hL]; exact ha))
    have inv := inv_bind (Z := Z) (k := (callEnvC fd L f).kindOf) (xs := xs) (m := fun _ => none) (cm := fun _ => none) (ρ := noVars) r' ⟨fun y v (e : none = some v) => (nomatch e), fun y v (e : none = some v) => (nomatch e)⟩
    have S : St (fx K0 prog w r0 A fd L f) Z Y (noVars.setAll xs (as' R.I)) σ s₁ := by
      refine ⟨?_, ⟨_, x.toInCall.ns, inv.1⟩, fun y v e hy => ?_, fun y a e => ⟨⟨_, x.cell y a e⟩, .inl (hw y a e)⟩, fun a ha => ?_⟩
      · refine hide fun P_ hP_ => ?_
        obtain ⟨h', tk, e, kk⟩ := x.done
        refine hP_ ?_
        clear hP_ P_
        rw [e]; exact g.grow kk
      · refine hide fun P_ hP_ => ?_
        obtain ⟨u, e1, e2⟩ := inv.2 y v e hy
        refine hP_ ?_
        clear hP_ P_
        have hm : y ∈ xs := by
          rcases setAll_mem e with h1 | h1
          · exact h1
          · cases h1
        rcases hkind y hm with h1 | ⟨h1, h2⟩
        · exact absurd h1 hy
        · rw [← cells_some (L + 1) 0 _ [] [] rfl] at h2
          obtain ⟨a, ha⟩ := Option.isSome_iff_exists.mp h2
          exact ⟨a, u, ha, by have := x.cell (Str.ofString y) a ha; rw [e1] at this; exact this, e2⟩
      · have ha2 : ∃ o, s₁.heap.get? a = some o := by
          rcases List.mem_cons.mp ha with rfl | ha
          · refine hide fun P_ hP_ => ?_
            obtain ⟨o, _, _, e, _⟩ := x.toInCall.ns
            refine hP_ ?_
            clear hP_ P_
            exact ⟨o, e⟩
          · refine hide fun P_ hP_ => ?_
            obtain ⟨⟨n, a'⟩, hm, h1⟩ := List.mem_filterMap.mp ha
            refine hP_ ?_
            clear hP_ P_
            refine hide fun P_ hP_ => ?_
            obtain ⟨o, e, _⟩ := x.cell n a h1
            refine hP_ ?_
            clear hP_ P_
            exact ⟨o, e⟩
        refine hide fun P_ hP_ => ?_
        obtain ⟨g1, g2, g3⟩ := gone a (above a ha)
        refine hP_ ?_
        clear hP_ P_
        exact ⟨g1, g2, g3, ha2⟩
    have hd' : (fx K0 prog w r0 A fd L f).A.depth + dep < recursionLimit := by
      show A.depth + 1 + dep < _; (first | lia | omega)
    have hu' : (fx K0 prog w r0 A fd L f).A.units + un < cLine := by
      show A.units + 3 + un < _; (first | lia | omega)
    have kp := x.toInCall.keep
    have at0 : R.At (fx K0 prog w r0 A fd L f) Z Y σ s₁.heap 0 := by
      refine ⟨fun b hb => ⟨(hap b hb).1, (hap b hb).2.1, (hap b hb).2.2, fun ho => ?_, fun y hy => ?_⟩, hit.at fun o e => kp _ o e, hns.keeps kp, hdt⟩
      · exact absurd (exI b hb) (Nat.not_lt.mpr (above b ho))
      · exact absurd (exI b hb) (Nat.not_lt.mpr (above b (hw y b hy)))
    have frm : Frm (fx K0 prog w r0 A fd L f) R eF := ⟨by show (A.frames.map _) = _; rw [hfs]; rfl, rfl, hfF, hkF⟩
    refine h _ R eF ⟨rfl, rfl, rfl, rfl, rfl, hk', hd', hu'⟩ ⟨L + 1, rfl⟩ hw frm hds Z Y s₁ _ _ S at0 fun Z' fl gl ρ' σ' s' xx rr k S' out => ?_
    cases rr with
    | next => exact q Z' _ _ σ' s' xx RV.none k S'.g out.ap.z out.ap.s out.fr
    | brk => exact k.elim
    | cont => exact k.elim
    | ret hr => exact q Z' _ _ σ' s' xx hr k S'.g out.ap.z out.ap.s out.fr

/-- two arguments, a default of None for the third -/
theorem bind2d {K0 : Frag} {fd : FuncData} {a b : V} {x y z : String} {T : Addr} {o : Obj} {n : Nat} {k : Value → Value → Option (Array Value) → Sem (List (Str × Value))} (hd : fd.defaults = .ref T) (ho : K0.lookup T = some o) (hs : o.data = .seq #[.none] n)
    (h₁ : ∀ u v, bindArgs fd ⟨[u, v], []⟩ = seqItems? fd.defaults >>= k u v) (h₂ : ∀ u v, k u v (some #[.none]) = pure [(Str.ofString x, u), (Str.ofString y, v), (Str.ofString z, .none)]) :
    ∀ (s : Shared) (Z : Zone) (us : List Value), K0.In s.heap → RVs Z us [a, b] → ∃ us', A3 (RVs Z us' [a, b, .d .none]) (us'.length = [x, y, z].length) (BindsTo s fd ⟨us, []⟩ (([x, y, z].map Str.ofString).zip us')) := fun s Z us hK r => by
  refine hide fun P_ hP_ => ?_
  obtain ⟨u, v, rfl, r1, r2⟩ := rvs2 r
  refine hP_ ?_
  clear hP_ P_
  exact ⟨[u, v, .none], .cons r1 (.cons r2 (.cons RV.none .nil)), rfl, .of_defaults hd (hK _ _ ho) hs (h₁ u v) (h₂ u v)⟩
end Mine
namespace Mine
open PySem.SeqAt Classical

section
variable {c : Cx} {Z Y : Zone} {ρ : Vars} {σ : Sto} {s : Shared}
/-- the frame's cells join the kept part; its object stays out -/
noncomputable def lend2 (c : Cx) (Y : Zone) (s : Shared) : Zone := fun a => if (a ∈ c.own ∨ ∃ x, c.env.cells.lookup x = some a) ∧ a ≠ c.env.locals then s.heap.get? a else Y a
theorem St.lend2G (S : St c Z Y ρ σ s) : G c.r0 Z (lend2 c Y s) σ s := by
  have hz : ∀ a, (a ∈ c.own ∨ ∃ x, c.env.cells.lookup x = some a) → Z a = none ∧ σ a = none := fun a ha => by
    rcases ha with ha | ⟨x, ha⟩
    · exact ⟨(S.own a ha).1, (S.own a ha).2.2.1⟩
    · refine ⟨?_, S.notCell x a ha⟩
      rcases (S.cells x a ha).2 with h | ⟨o, h⟩
      · exact (S.own a h).1
      · exact S.g.zy a o h
  refine ⟨S.g.same, S.g.base, S.g.keep, fun a o e => ?_, fun a o e => ?_, fun a l e => ?_⟩
  · unfold lend2 at e
    split at e
    · exact e
    · exact S.g.keepY a o e
  · unfold lend2 at e
    split at e
    · rename_i q; exact (hz a q.1).1
    · exact S.g.zy a o e
  · refine hide fun P_ hP_ => ?_
    obtain ⟨h1, h2, h3⟩ := S.g.lists a l e
    refine hP_ ?_
    clear hP_ P_
    refine ⟨h1, ?_, h3⟩
    unfold lend2
    split
    · rename_i q; rw [(hz a q.1).2] at e; cases e
    · exact h2
theorem St.back2 (S : St c Z Y ρ σ s) (hk : c.Ok) {Z' : Zone} {σ' : Sto} {s' : Shared} (x : Ext Z Z') (g : G c.r0 Z' (lend2 c Y s) σ' s') (zL : Z' c.env.locals = none) (sL : σ' c.env.locals = none) {m : Str → Option Value} (hn : s'.heap.Ns c.env.locals m)
    (hm : ∀ x v, ρ x = some v → c.env.kindOf (Str.ofString x) = some .local → ∃ u, m (Str.ofString x) = some u ∧ RV Z u v) : St c Z' Y ρ σ' s' := by
  have kept : ∀ a o, (a ∈ c.own ∨ ∃ x, c.env.cells.lookup x = some a) → a ≠ c.env.locals → s.heap.get? a = some o → s'.heap.get? a = some o := fun a o h ha e =>
    g.keepY a o (by unfold lend2; rw [if_pos ⟨h, ha⟩]; exact e)
  have yl : ∀ a o, Y a = some o → lend2 c Y s a = some o := fun a o e => by
    unfold lend2
    split
    · exact S.g.keepY a o e
    · exact e
  refine ⟨⟨g.same, g.base, g.keep, fun a o e => g.keepY a o (yl a o e), fun a o e => g.zy a o (yl a o e), fun a l e => ?_⟩, ⟨m, hn, fun y v e hy => ?_⟩, fun y v e hy => ?_, fun y a e => ?_, fun a ha => ?_⟩
  · refine hide fun P_ hP_ => ?_
    obtain ⟨h1, h2, h3⟩ := g.lists a l e
    refine hP_ ?_
    clear hP_ P_
    refine ⟨h1, ?_, h3⟩
    cases q : Y a with
    | none => rfl
    | some o => rw [yl a o q] at h2; cases h2
  · refine hide fun P_ hP_ => ?_
    obtain ⟨u, e1, e2⟩ := hm y v e hy
    refine hP_ ?_
    clear hP_ P_
    exact ⟨u, e1, e2.mono x⟩
  · refine hide fun P_ hP_ => ?_
    obtain ⟨a, u, e1, ⟨o, e2, e3⟩, e4⟩ := S.cell y v e hy
    refine hP_ ?_
    clear hP_ P_
    exact ⟨a, u, e1, ⟨o, kept _ _ (.inr ⟨_, e1⟩) (hk.notL _ _ e1) e2, e3⟩, e4.mono x⟩
  · refine hide fun P_ hP_ => ?_
    obtain ⟨⟨u, o, e2, e3⟩, e4⟩ := S.cells y a e
    refine hP_ ?_
    clear hP_ P_
    exact ⟨⟨u, o, kept _ _ (.inr ⟨_, e⟩) (hk.notL _ _ e) e2, e3⟩, e4⟩
  · refine hide fun P_ hP_ => ?_
    obtain ⟨h1, h2, h3, o, h4⟩ := S.own a ha
    refine hP_ ?_
    clear hP_ P_
    by_cases q : a = c.env.locals
    · subst q
      refine hide fun P_ hP_ => ?_
      obtain ⟨oL, _, _, e, _⟩ := hn
      refine hP_ ?_
      clear hP_ P_
      exact ⟨zL, h2, sL, oL, e⟩
    · have hl : lend2 c Y s a = some o := by unfold lend2; rw [if_pos ⟨.inl ha, q⟩]; exact h4
      refine ⟨g.zy a o hl, h2, ?_, o, kept _ _ (.inl ha) q h4⟩
      cases z : σ' a with
      | none => rfl
      | some l => have := (g.lists a l z).2.1; rw [hl] at this; cases this
end

theorem wk_callI {K0 : Frag} {prog : Program} {w : World} {r0 : Shared} {sc : Scope} {dep un dep' un' : Nat} {c : Cx} {ρ : Vars} {σ : Sto} {K : V → Sto → Prop} {p1 p2 p3 p4 p5 pos : Pos} {x : Str} (W : Wk K0 prog w r0 sc dep un c) {f : Addr} {o : Obj} {fd : FuncData} {z : String} {ds : List D} {i : Int} {k0 : Nat}
    (hn : nsIn K0 mainGlobals x = some (some (.ref f))) (ho : K0.lookup f = some o) (hd : o.data = .func fd) (hkd : sc.names.lookup x = some .globalImplicit) (hdb : (x == ("__debug__" : Str)) = false)
    (hz : ρ z = some (.d (.lst ds))) (hzl : c.env.kindOf (Str.ofString z) = some .local) (hzd : (Str.ofString z == ("__debug__" : Str)) = false) (n1 : nsIn c.K mainGlobals (Str.ofString "iter") = some none) (k1 : c.env.kindOf (Str.ofString "iter") = some .globalImplicit)
    (hfs : c.A.frames = some [c.env]) (hff : c.env.frame = some c.env.locals) (h : FnI K0 prog w r0 dep' un' f [.d (.int i)] ds σ K) (hdp : dep' ≤ dep) (hup : un' ≤ un) :
    Ev c ρ σ (.Call (.Name x p1) [.Constant (.int i) k0 p2, .Call (.Name (Str.ofString "iter") p3) [.Name (Str.ofString z) p4] [] p5] [] pos) K := fun Z Y s Q X S q => by
  have hk := W.ok
  have hKo := lof W.k ho
  refine Call_Name rfl (ev_global (K := fun v σ' => v = .raw (.ref f) ∧ σ = σ') hk (nof W.k hn) ⟨rfl, rfl⟩ (kof W.s hkd) hdb Z Y s _ X S fun Z1 u v σ1 s1 x1 r1 h1 S1 => ?_)
  obtain ⟨rfl, rfl⟩ := h1
  (first | cases r1 using Rv.intE | cases r1 using Rv.boolE | cases r1 using Rv.noneE | cases r1 using Rv.lstE | cases r1 using Rv.tupE | cases r1 using RVs.nilE | cases r1 using Rvs.nilE | cases r1)
  refine callWith_def (o := o) hd ?_ rfl
  refine wpAny_items_cons (wpAny_Constant_int (wpAny_items_cons (Call_Name rfl (name_builtin hk (S1.tok hk) n1 (by first | rfl | decide) k1 (by decide) (by decide) ?_)) rfl)) rfl
  refine Calls.callWith_builtin rfl (Calls.evalArgs_plain (show wpAny _ c.A (spliced (backTo p5 (starEach [.Name (Str.ofString z) p4] c.env))) _ _ _ from wpAny_items_cons ?_ rfl))
  refine hide fun P_ hP_ => ?_
  obtain ⟨m, u, hm1, hm2, hm3⟩ := (S1.tok hk (tk := s1.toks + 1)).get hz hzl
  refine hP_ ?_
  clear hP_ P_
  cases hm3 using Rv.lstE with
  | lst e rr =>
    rename_i a vs nn
    refine wpAny_Name (wpAny_loadName_local hk.fn hzl hm1 hm2 (wpAny_items_nil ?_)) hzd
    refine iter_list (isList_of S1.g.keep e) (wpAny_items_nil ?_)
    have S2 := S1.grow hk (tk := s1.toks + 1) (h' := s1.heap.push { cls := .type "list_iterator", data := .fields #[.ref a, .int 0 0] }) fun b o e => Heap.get?_push_of_some _ e
    refine ⟨S2.g.keep _ _ (S2.g.base _ _ (hk.bs.K _ _ hKo)), ?_⟩
    refine hide fun P_ hP_ => ?_
    obtain ⟨m', hns, hmv⟩ := S2.ns
    refine hP_ ?_
    clear hP_ P_
    refine hide fun P_ hP_ => ?_
    obtain ⟨f1, f2, f3⟩ := S1.g.fresh (get_size s1.heap)
    refine hP_ ?_
    clear hP_ P_
    have hown := S2.own _ hk.L
    have ap : Apart c Z1 Y σ s1.heap.objs.size := Apart.fresh S1 (get_size _)
    have wA := W.d
    have wU := W.u
    have := h
    refine hide fun P_ hP_ => ?_
    obtain ⟨rfl, rfl, rfl, rfl, -, -, -, -⟩ := W
    refine hP_ ?_
    clear hP_ P_
    refine h c.A c.env ⟨s1.heap.objs.size, a, ds, c.env.locals, m'⟩ Z1 (lend2 c Y { s1 with heap := s1.heap.push { cls := .type "list_iterator", data := .fields #[.ref a, .int 0 0] }, toks := s1.toks + 1 }) _ Q X _ rfl hk.hand (by (first | lia | omega)) (by (first | lia | omega)) hfs hff (by rw [hk.fn]; decide) hk.bs S2.lend2G
      (.cons RV.int (.cons RV.raw .nil)) (fun b hb => ?_) ⟨_, get_push rfl, rfl, rfl⟩ hns (.lst e rr) fun Z' u v σ' s' xx rv kv g zL sL hn' => q Z' u v σ' s' (x1.trans xx) rv kv (S2.back2 hk xx g zL sL hn' hmv)
    rcases List.mem_cons.mp hb with rfl | hb
    · refine ⟨f1, ?_, f3⟩
      unfold lend2
      rw [if_neg (fun z => z.1.elim ap.o fun ⟨y, hy⟩ => ap.c y hy)]
      exact f2
    · rcases List.mem_cons.mp hb with rfl | hb
      · refine ⟨hown.1, ?_, hown.2.2.1⟩
        unfold lend2
        rw [if_neg (fun z => z.2 rfl)]
        exact hown.2.1
      · cases hb
end Mine
namespace Mine
open PySem.SeqAt Classical
set_option maxHeartbeats 4000000
set_option pp.deepTerms false
set_option pp.proofs false
theorem ex_expr_any {c : Cx} {ρ : Vars} {σ : Sto} {K : Fl → Vars → Sto → Prop} {pos : Pos} (hk : c.Ok) {e : Expr} (h : Ev c ρ σ e fun v σ1 => K .next ρ σ1) (hi : interactive c.env = false) (hs : swapsWith e none pos.line c.env = pure false) : Ex1 c ρ σ (.Expr e pos) K := fun Z Y s Q X S q =>
  wpAny_Expr_any (h Z Y s _ X S fun Z1 u v σ1 s1 x1 r1 k1 S1 => q Z1 _ _ ρ σ1 s1 x1 .next k1 S1) hi hs
theorem w_nsmallest {prog : Program} {w : World} {r0 : Shared} {σ : Sto} {ws : List Int} {K : V → Sto → Prop} (h2 : 2 ≤ ws.length) (hz : ws.length ≤ 1000)
    (hk : ∀ p q rest, (p :: q :: rest).Perm ws → p ≤ q → (∀ r ∈ rest, q ≤ r) → K (.d (.lst [.int p, .int q])) σ) : FnI (KP w) prog w r0 4 13 90 [.d (.int 2)] (ws.map D.int) σ K := by
  refine fnI_go (sc := _) (xs := ["n", "iterable", "key"]) (as' := fun I => [.d (.int 2), .raw (.ref I), .d .none]) (by rfl) (by rfl) (by rfl) (by rfl) (by rfl) (fun I => bind2d (T := 85) (by rfl) (by rfl) (by rfl) (fun u v => by rfl) (fun u v => by rfl)) (by decide) (by rfl) (by rfl) (by rfl) (by rfl) (by rfl) (by rfl) ?_
  intro c R eF W hcs how fr hds
  dsimp only at W hcs
  simp only [Vars.setAll]
  refine exI_skip ?_
  walk_at "m"
  refine ⟨by decide, ?_⟩
  refine exI_try W.ok fr (x := "iterable") (by walk_at "lk") (kof W.s (by rfl)) (by decide) (nof W.k (by rfl)) (kof W.s (by rfl)) (nof W.k (by rfl)) (kof W.s (by rfl)) (nof W.k (by rfl)) (kof W.s (by rfl)) (by rfl) ?_
  refine exI_take ?_
  walk_at "m"
  refine op_is_none (.inl rfl) ?_
  walk_at "m"
  refine ⟨by simp, ?_⟩
  refine exI_assign W.ok (evI_iter W.ok (x := "iterable") (by walk_at "lk") (kof W.s (by rfl)) (by decide) (nof W.k (by rfl)) (kof W.s (by rfl)) ?_) (kof W.s (by rfl)) (by rfl)
  refine exI_zip (xs := ["i", "elem"]) (n := 2) W.ok (clos0 (by rfl) (by decide) (by rfl) (by decide)) (.cons (.cons .nil)) rfl (by decide) (kof W.s (by rfl)) (by walk_at "lk") (kof W.s (by rfl)) (by decide) (by walk_at "lk") (kof W.s (by rfl)) (by decide) (nof W.k (by rfl)) (kof W.s (by rfl)) (nof W.k (by rfl)) (kof W.s (by rfl)) (by rw [hds]; simpa using h2) (by decide) (by unfold swapsWith Env.blockKind Env.kindOf; rw [W.s]; rfl) ?_
  have hd0 : E3 fun x y rest => ws = x :: y :: rest := by
    match ws, h2 with
    | x :: y :: rest, _ => exact ⟨x, y, rest, rfl⟩
  obtain ⟨x0, x1, wr, rfl⟩ := hd0
  refine ⟨fun pre acc σ' => σ' = σ ∧ acc = pre.map fun d => .tup [d.getD 1 .none, d.getD 0 .none], ⟨rfl, rfl⟩, ?_, ?_⟩
  · rintro C pre d post acc σ' ok hd ⟨rfl, rfl⟩
    have hd2 : E2 fun u v => d = [u, v] := by
      have : d ∈ zpairs 2 R.ds := by rw [hd]; simp
      obtain ⟨i, -, rfl⟩ := List.mem_map.mp this
      exact ⟨_, _, rfl⟩
    obtain ⟨u, v, rfl⟩ := hd2
    walk_at "kid"
    simp only [Vars.setAll, List.map_cons, List.map_nil]
    refine ev_tuple W.ok ?_
    walk_at "m"
    exact ⟨[v, u], rfl, by simp, _, rfl, rfl, by simp⟩
  · rintro acc σ2 ⟨rfl, rfl⟩
    have hz2 : (zpairs 2 R.ds).map (fun d => D.tup [d.getD 1 .none, d.getD 0 .none]) = [pr x0 0, pr x1 1] := by
      rw [hds]; rfl
    rw [hz2]
    refine .inr fun ar ha => ?_
    refine exI_skip ?_
    walk_at "m"
    refine tst_list W.ok (by rfl) ?_
    walk_at "m"
    refine ⟨_, Vw.p (Sto.set_self _ _ _), by simp, by simp, ?_⟩
    refine exI_cons ?_
    walk_at "m"
    refine W.fn (w_heapify_max (t := .tup [.int, .int]) (Sto.set_self _ _ _) (by simp) (fun d hd => ?_) (fun l p hp hl d hd => hl d ((siftup_perm TO.gtD hp).mem_iff.mp hd)) ?_) (by decide) (by decide)
    · rcases List.mem_cons.mp hd with rfl | hd
      · exact pr_has _ _
      · rcases List.mem_cons.mp hd with rfl | hd
        · exact pr_has _ _
        · cases hd
    rw [Sto.set_set]
    obtain ⟨a0, two0⟩ := two_init x0 x1
    generalize hfy gtD (([pr x0 0, pr x1 1] : List D).length / 2) [pr x0 0, pr x1 1] = l0 at two0 ⊢
    refine ⟨rfl, ?_⟩
    obtain ⟨i0, top0⟩ := two_top two0
    refine exI_cons ?_
    walk_at "m"
    refine op_itemN (i := 0) (Vw.p (Sto.set_self _ _ _)) (by rw [two_len two0]; decide) (by rw [two_len two0]; decide) ?_ (fun _ _ => rfl)
    rw [top0]
    walk_at "m"
    refine op_place (ds := [.int a0, .int i0]) (j := 0) (by decide) (by decide) (by rfl) (by rfl) ?_ (fun _ _ => rfl)
    walk_at "m"
    refine exI_cons ?_
    walk_at "m"
    refine exI_cons ?_
    walk_at "m"
    refine ev_global W.ok (nof W.k (by rfl)) ?_ (kof W.s (by rfl)) (by decide)
    walk_at "m"
    refine exI_for (x := "elem") W.ok (.loc (kof W.s (by rfl))) (y := "it") (by walk_at "lk") (kof W.s (by rfl)) (by decide) (by rw [hds]; simp) (fun pre ρ' σ' => E4 fun (a : Int) (l : List D) (ps : List Int) (k : Int) => A7 (pre = ps.map D.int) (Two2 a l (x0 :: x1 :: ps)) (σ' = σ2.set ar l) (ρ' "result" = some (.raw (.ref ar))) (ρ' "top" = some (.d (.int a))) (ρ' "order" = some (.d (.int k))) (ρ' "_heapreplace" = some (.raw (.ref 49))))
      ⟨a0, l0, [], 2, rfl, two0, rfl, by walk_at "lk", by walk_at "lk", by walk_at "lk", by walk_at "lk"⟩ ?_ ?_
    · rintro pre d post ρ' σ' hd ⟨a, l, ps, k, rfl, two, rfl, e1, e2, e3, e4⟩
      rw [hds] at hd
      obtain ⟨x, qs, rfl, hps⟩ := map_split int_inj (show wr.map D.int = ps.map D.int ++ d :: post from hd)
      walk_at "m"
      have hi : σ2.set ar l ar = some l := Sto.set_self _ _ _
      have h2l := two_len two
      by_cases hx : x < a
      · rw [decide_eq_true hx]
        walk_at "m1"
        walk_at "m1"
        refine ex_expr_any W.ok ?_ (inter W.ok) (by with_unfolding_all rfl)
        refine ev_call_fn (f := 49) W.ok (lof W.k (by with_unfolding_all rfl)) (by with_unfolding_all rfl) (ev_local W.ok (by walk_at "lk") ⟨rfl, ?_⟩ (kof W.s (by rfl)) (by decide)) (by with_unfolding_all rfl)
        walk_at "m"
        refine ev_tuple W.ok ?_
        walk_at "m"
        refine ⟨[.int x, .int k], rfl, by simp, ?_⟩
        walk_at "m"
        refine W.fn (w_heapreplace_max (t := .tup [.int, .int]) (x := pr x k) hi (by (first | lia | omega)) (by (first | lia | omega)) (two_has two) (pr_has _ _) ?_) (by decide) (by decide)
        rw [Sto.set_set]
        obtain ⟨a', two'⟩ := two_rep (k := k) two hx
        generalize hrep gtD l (pr x k) = l' at two' ⊢
        obtain ⟨i', top'⟩ := two_top two'
        walk_at "m1"
        refine ex_assign_tup (xs := ["top", "_order"]) W.ok (.cons (.cons .nil)) (fun y hy => ?_) ?_ (by rfl) (by rfl)
        · simp only [List.mem_cons, List.not_mem_nil, or_false] at hy
          rcases hy with rfl | rfl
          · exact .loc (kof W.s (by rfl))
          · exact .loc (kof W.s (by rfl))
        walk_at "m"
        refine op_itemN (i := 0) (Vw.p (Sto.set_self _ _ _)) (by rw [two_len two']; decide) (by rw [two_len two']; decide) ?_ (fun _ _ => rfl)
        rw [top']
        refine ⟨[.int a', .int i'], rfl, rfl, ?_⟩
        simp only [List.map_cons, List.map_nil, Vars.setAll]
        walk_at "m1"
        refine ex_aug W.ok (by walk_at "lk") ?_ (kof W.s (by rfl))
        walk_at "m"
        refine ⟨1, rfl, ?_⟩
        walk_at "m"
        exact ⟨a', l', ps ++ [x], k + 1, by simp, two', rfl, by walk_at "lk", by walk_at "lk", by walk_at "lk", by walk_at "lk"⟩
      · rw [decide_eq_false hx]
        walk_at "m"
        exact ⟨a, l, ps ++ [x], k, by simp, two_skip two (by (first | lia | omega)), rfl, by walk_at "lk", by walk_at "lk", by walk_at "lk", by walk_at "lk"⟩
    · rintro ρ' σ' ⟨a, l, ps, k, hps, two, rfl, e1, e2, e3, e4⟩
      rw [hds] at hps
      have hps' : wr = ps := map_inj' int_inj (show wr.map D.int = ps.map D.int from hps)
      subst hps'
      have h2l := two_len two
      walk_at "m1"
      refine ex_expr W.ok ?_ (inter W.ok) (by with_unfolding_all rfl)
      refine ev_sort (ts := [.int]) W.ok (by rfl) (by have := W.u; simp [Tys.depth, Ty.depth]; (first | lia | omega)) ?_
      walk_at "m"
      refine ⟨ar, l, rfl, Sto.set_self _ _ _, by (first | lia | omega), by (first | lia | omega), two_has two, fun es hp hs => ⟨rfl, ?_⟩⟩
      rw [Sto.set_set]
      obtain ⟨p, i, q, j, rest, rfl, hpq, hw, hr⟩ := two_end two hp hs
      walk_at "m"
      refine ev_compPL (xs := ["elem", "order"]) W.ok (clos0 (by rfl) (by decide) (by rfl) (by decide)) (.cons (.cons .nil)) (by decide) ?_ (fun _ => rfl)
      refine ev_freeze W.ok ?_
      walk_at "m"
      refine ⟨ar, _, rfl, Sto.set_self _ _ _, ?_⟩
      rw [Sto.del_set σ2 ha]
      refine ⟨[[.int p, .int i], [.int q, .int j]], rfl, by simp, by simp, fun pre acc σ' => σ' = σ2 ∧ acc = pre.map (fun d => d.getD 0 .none), ⟨rfl, rfl⟩, ?_, ?_⟩
      · rintro C pre d post acc σ' ok hd ⟨rfl, rfl⟩
        have hd2 : E2 fun u v => d = [u, v] := by
          have : d ∈ [[D.int p, D.int i], [D.int q, D.int j]] := by rw [hd]; simp
          rcases List.mem_cons.mp this with rfl | this
          · exact ⟨_, _, rfl⟩
          · rcases List.mem_cons.mp this with rfl | this
            · exact ⟨_, _, rfl⟩
            · cases this
        obtain ⟨u, v, rfl⟩ := hd2
        walk_at "kid"
        simp only [Vars.setAll, List.map_cons, List.map_nil]
        walk_at "m"
        exact ⟨u, rfl, rfl, by simp⟩
      · rintro acc σ' ⟨rfl, rfl⟩
        refine .inl ?_
        walk_at "m"
        exact hk p q rest hw hpq hr
theorem w_nlargest {prog : Program} {w : World} {r0 : Shared} {σ : Sto} {ws : List Int} {K : V → Sto → Prop} (h2 : 2 ≤ ws.length) (hz : ws.length < 64)
    (hk : ∀ es : List Int, es.Perm ws → es.Pairwise (· ≥ ·) → K (.d (.lst (es.map D.int))) σ) : Fn (KP w) prog w r0 1 10 96 [.d (.int ws.length), .d (.lst (ws.map D.int))] σ K := by
  refine fn_go (sc := _) (as' := [.d (.int ws.length), .d (.lst (ws.map D.int)), .d .none]) (xs := ["n", "iterable", "key"]) (by rfl) (by rfl) (by rfl) (by rfl) (by rfl) (bind2d (T := 91) (by rfl) (by rfl) (by rfl) (fun u v => by rfl) (fun u v => by rfl)) (by decide) (by rfl) (by rfl) (by rfl) (by rfl) (by rfl) (by rfl) ?_
  intro c W hcs how
  dsimp only at W hcs
  simp only [Vars.setAll]
  walk_at "m"
  rw [decide_eq_false (by (first | lia | omega))]
  walk_at "m"
  refine ex_try ?_
  walk_at "m"
  refine cl_len W.ok (ds := ws.map D.int) (Vw.d _) (by simp; (first | lia | omega)) ?_
  walk_at "m"
  refine op_ge W.ok ⟨_, rfl, ?_⟩
  rw [decide_eq_true (by simp)]
  walk_at "m"
  refine ev_slice (a := none) (b := none) (st' := none) (ds := []) (es := []) W.ok ?_
  refine sorted_kw W.ok (nof W.k (by rfl)) (kof W.s (by rfl)) (by rfl) ?_
  walk_at "m"
  refine ⟨rfl, ws, Vw.d _, hz, fun es hp hs => .inl ?_⟩
  walk_at "m"
  refine ⟨es.map D.int, es.map D.int, none, some (ws.length : Int), none, Vw.d _, .none, .int _, .none, by simp, by simp [hp.length_eq]; (first | lia | omega), fun Z vs r => ?_, .inl ?_⟩
  · have := pick_upto (ds := es.map D.int) ws.length Z vs r
    rw [List.take_of_length_le (by simp [hp.length_eq])] at this
    exact this
  · walk_at "m"
    exact hk es hp hs
theorem cell_lookup {L : Nat} {x y z : Str} {a : Addr} (h : [(x, L + 1 + 1), (y, L + 1)].lookup z = some a) : (z = x ∧ a = L + 1 + 1) ∨ (z = y ∧ a = L + 1) := by
  simp only [List.lookup_cons] at h
  cases q : z == x with
  | true => rw [q] at h; cases h; exact .inl ⟨beq_iff_eq.mp q, rfl⟩
  | false =>
    rw [q] at h
    cases q2 : z == y with
    | true => rw [q2] at h; cases h; exact .inr ⟨beq_iff_eq.mp q2, rfl⟩
    | false => rw [q2] at h; cases h
/-- from the walk's head into the law's own frame -/
theorem top_bridge {prog : Program} {w : World} {s₁ : Shared} {h₁ : Heap} {tk : Nat} {fa : Addr} {cd : Value} {name : Str} {scope : Scope} {m cm : Str → Option Value} {news : List (Addr × Obj)} {S0 : Addr} {ns : List Int} {body : List Stmt} {Q : Flow → Shared → Prop} {X : Value → Shared → Prop} {x y : Str}
    (B : Bs (KP w) s₁) (F : Fr s₁.heap s₁.heap.objs.size h₁ m) (N0 : News s₁.heap s₁.heap.objs.size h₁ news) (hcl : cellsFrom (s₁.heap.objs.size + 1) scope.names [] = [(x, s₁.heap.objs.size + 1 + 1), (y, s₁.heap.objs.size + 1)]) (X0 : CellsAre cm (cellsFrom (s₁.heap.objs.size + 1) scope.names []) news)
    (hxy : (y == x) = false) (hm : m (Str.ofString "script") = some (.ref S0)) (hs : Scr s₁ S0 ns) (hkind : scope.kind = .function) (hloc : scope.names.lookup (Str.ofString "script") = some .local)
    (h : ∀ c : Cx, Wk (KP w) prog w s₁ scope 10 40 c → (∃ n, c.env.cells = cellsFrom n scope.names []) → c.Owner → c.A.frames = some [c.env] → c.env.frame = some c.env.locals → Scr c.r0 S0 ns →
      Ex c (noVars.set "script" (.raw (.ref S0))) (fun _ => none) body (fun f _ _ => f = .ret (.d (.bool true))))
    (hQ : ∀ h' tk' m', Fr s₁.heap s₁.heap.objs.size h' m' → Q (.ret (.bool true)) { s₁ with heap := h', toks := tk' }) :
    wpAny (model prog w) (callerA.deeper (envOfC name scope s₁.heap.objs.size fa cd)) (execs body (envOfC name scope s₁.heap.objs.size fa cd)) Q X { s₁ with heap := h₁, toks := tk } := by
  generalize hL : s₁.heap.objs.size = L at *
  obtain ⟨o1, o2, rfl, d1, d2⟩ := (hcl ▸ X0).two
  have n1 := N0 _ (.head _)
  have n2 := N0 _ (.tail _ (.head _))
  have cells : (envOfC name scope L fa cd).cells = [(x, L + 1 + 1), (y, L + 1)] := hcl
  have ok : (⟨KP w, prog, w, callerA.deeper (envOfC name scope L fa cd), envOfC name scope L fa cd, [L, L + 1 + 1, L + 1], s₁⟩ : Cx).Ok := {
    bs := B
    glob := rfl
    blt := rfl
    hand := rfl
    L := .head _
    fn := hkind
    inj := fun u v a h1 h2 => by
      rw [cells] at h1 h2
      rcases cell_lookup h1 with ⟨rfl, r1⟩ | ⟨rfl, r1⟩ <;> rcases cell_lookup h2 with ⟨rfl, r2⟩ | ⟨rfl, r2⟩
      · rfl
      · exact absurd (r1.symm.trans r2) (show L + 1 + 1 ≠ L + 1 from by (first | lia | omega))
      · exact absurd (r1.symm.trans r2) (show L + 1 ≠ L + 1 + 1 from by (first | lia | omega))
      · rfl
    notL := fun u a h1 => by
      rw [cells] at h1
      rcases cell_lookup h1 with ⟨-, r1⟩ | ⟨-, r1⟩
      · rw [r1]; exact show L + 1 + 1 ≠ L from by (first | lia | omega)
      · rw [r1]; exact show L + 1 ≠ L from by (first | lia | omega) }
  have own : (⟨KP w, prog, w, callerA.deeper (envOfC name scope L fa cd), envOfC name scope L fa cd, [L, L + 1 + 1, L + 1], s₁⟩ : Cx).Owner := fun u a h1 => by
    rw [cells] at h1
    rcases cell_lookup h1 with ⟨-, r1⟩ | ⟨-, r1⟩ <;> rw [r1] <;> simp
  have gone : ∀ a, L ≤ a → s₁.heap.get? a = none := fun a ha => Heap.get?_none_of_le (by rw [hL]; exact ha)
  have S : St ⟨KP w, prog, w, callerA.deeper (envOfC name scope L fa cd), envOfC name scope L fa cd, [L, L + 1 + 1, L + 1], s₁⟩ (fun a => s₁.heap.get? a) (fun _ => none) (noVars.set "script" (.raw (.ref S0))) (fun _ => none) { s₁ with heap := h₁, toks := tk } := by
    refine ⟨⟨rfl, fun a o e => e, F.keep, fun a o (e : none = some o) => (nomatch e), fun a o (e : none = some o) => (nomatch e), fun a l (e : none = some l) => (nomatch e)⟩, ⟨m, F.ns, fun z v e hz => ?_⟩, fun z v e hz => ?_, fun z a e => ?_, fun a ha => ?_⟩
    · by_cases q : z = "script"
      · subst q
        rw [Vars.set_self] at e
        cases e
        exact ⟨_, hm, rfl⟩
      · rw [Vars.set_ne _ _ q] at e; cases e
    · by_cases q : z = "script"
      · subst q; exact absurd hloc hz
      · rw [Vars.set_ne _ _ q] at e; cases e
    · rw [cells] at e
      rcases cell_lookup e with ⟨-, r1⟩ | ⟨-, r1⟩ <;> subst r1
      · exact ⟨⟨_, o1, n1.1, d1⟩, .inl (by simp)⟩
      · exact ⟨⟨_, o2, n2.1, d2⟩, .inl (by simp)⟩
    · simp only [List.mem_cons, List.not_mem_nil, or_false] at ha
      rcases ha with rfl | rfl | rfl
      · exact ⟨gone _ (Nat.le_refl _), rfl, rfl, let ⟨o, _, _, e, _⟩ := F.ns; ⟨o, e⟩⟩
      · exact ⟨gone _ (by show L ≤ L + 1 + 1; (first | lia | omega)), rfl, rfl, _, n1.1⟩
      · exact ⟨gone _ (by show L ≤ L + 1; (first | lia | omega)), rfl, rfl, _, n2.1⟩
  refine h _ ⟨rfl, rfl, rfl, rfl, rfl, ok, by show callerA.depth + 1 + 10 < recursionLimit; decide +kernel, by show callerA.units + 3 + 40 < cLine; decide +kernel⟩ ⟨_, rfl⟩ own rfl rfl hs _ _ _ Q X S fun Z' f g ρ' σ' s' xx rf kk S' => ?_
  subst kk
  cases rf with
  | ret hr =>
    cases hr
    have e := S'.g.same
    obtain ⟨m', hn, -⟩ := S'.ns
    have F' : Fr s₁.heap L s'.heap m' := ⟨hn, fun b o eb => S'.g.keep b o (xx b o eb), by rw [hL]; exact Nat.le_refl _⟩
    have := hQ s'.heap s'.toks m' F'
    rw [e]; exact this
def bodyAt (K : Frag) (a : Addr) : Option (List Stmt) := match K.lookup a with
  | some o => (match o.data with | .func fd => (match fd.body with | .stmts b => some b | _ => none) | _ => none)
  | none => none
def scopeAt (K : Frag) (a : Addr) : Option Scope := match K.lookup a with
  | some o => (match o.data with | .func fd => some fd.scope | _ => none)
  | none => none
theorem IsTree.perm {ts T U : List Tie} (h : IsTree ts T) (p : T.Perm U) : IsTree ts U :=
  ⟨fun t ht => h.sub t (p.mem_iff.mpr ht), p.nodup_iff.mp h.nd, by rw [← p.length_eq]; exact h.len, h.span.mono fun t ht => p.mem_iff.mp ht⟩
theorem has_gl (T : List Tie) : Has (.lst tyT) (gl T) := has_lst has_ties
theorem has_gls {L : List (List Tie)} : ∀ d ∈ L.map gl, Has (.lst tyT) d := fun d hd => by
  obtain ⟨T, -, rfl⟩ := List.mem_map.mp hd; exact has_gl T
theorem cl_sorted_gl {c : Cx} {ρ : Vars} {σ : Sto} {K : V → Sto → Prop} (hk : c.Ok) (hu : c.A.units + 3 < cLine) {v : V} {T : List Tie} (hv : Vw σ v (gl T)) (h2 : 2 ≤ T.length) (h64 : T.length < 64) (h : K (.d (gl (srt T))) σ) : Cl c ρ σ (.builtin "sorted") [v] K := by
  refine cl_sorted_tups (ds := T.map Tie.d) (ts := [.int, .int, .int]) hk hv has_ties (by simp [Tys.depth, Ty.depth]; (first | lia | omega)) (by simpa using h2) (by simpa using h64) fun es hp hs => ?_
  obtain ⟨us, rfl, hu⟩ := perm_map_inv hp rfl
  rw [srt_uniq hu (List.pairwise_map.mp hs)]
  exact .inl h
theorem exD_lt {e f : Tie × Tie} (h : D.lt (exD e) (exD f) = false) : f.1.w - f.2.w ≤ e.1.w - e.2.w := by
  unfold exD at h
  rw [D.lt, Ds.lt] at h
  split at h
  · rename_i q; injection q with q; (first | lia | omega)
  · simp [D.lt] at h; (first | lia | omega)
theorem law_wrap {K : Frag} {a : Addr} {b body : List Stmt} {sc0 sc : Scope} {P : List Stmt → Scope → Prop} (h1 : bodyAt K a = some b) (h2 : scopeAt K a = some sc0) (hb : bodyAt K a = some body) (hsc : scopeAt K a = some sc) (h : P b sc0) : P body sc := by
  cases h1.symm.trans hb; cases h2.symm.trans hsc; exact h
theorem w_law {prog : Program} {w : World} {r0 : Shared} {S0 : Addr} {ns : List Int} {body : List Stmt} {sc : Scope} (hz : ns.length ≤ 63) (hs : Scr r0 S0 ns) (hb : bodyAt (KP w) 152 = some body) (hsc : scopeAt (KP w) 152 = some sc) :
    ∀ c : Cx, Wk (KP w) prog w r0 sc 10 40 c → (∃ n, c.env.cells = cellsFrom n sc.names []) → c.Owner → c.A.frames = some [c.env] → c.env.frame = some c.env.locals →
      Ex c (noVars.set "script" (.raw (.ref S0))) (fun _ => none) body (fun f _ _ => f = .ret (.d (.bool true))) := by
  refine law_wrap (P := fun body sc => ∀ c : Cx, Wk (KP w) prog w r0 sc 10 40 c → (∃ n, c.env.cells = cellsFrom n sc.names []) → c.Owner → c.A.frames = some [c.env] → c.env.frame = some c.env.locals → Ex c (noVars.set "script" (.raw (.ref S0))) (fun _ => none) body (fun f _ _ => f = .ret (.d (.bool true)))) (by with_unfolding_all rfl) (by with_unfolding_all rfl) hb hsc ?_
  clear hb hsc
  intro c W hcs how hfs hff
  dsimp only at W hcs
  have hs' : Scr c.r0 S0 ns := by rw [W.r]; exact hs
  have h78 := tiesOf_length ns
  have tok := tiesOf_ok ns
  walk_at "m"
  refine W.fn (w_ties hs hz ?_) (by decide) (by decide)
  walk_at "m1"
  generalize hts : tiesOf ns = ts at *
  walk_at "m"
  refine ex_assign_cell W.ok how ?_ (kof W.s (by rfl)) (cof hcs (by rfl)) (by with_unfolding_all rfl)
  walk_at "m"
  refine cl_sum_scr W.ok hs' ?_
  walk_at "m"
  refine W.fn (w_grown tok (by (first | lia | omega)) (fm5 _) fun T r gr => ?_) (by decide) (by decide)
  have leastT := tiesOf_prim ns (fm5 _) (by rw [hts]; exact gr)
  rw [hts] at leastT
  have lenT := leastT.1.len
  walk_at "m"
  refine cl_sorted_gl W.ok (by have := W.u; (first | lia | omega)) (Vw.d _) (by (first | lia | omega)) (by (first | lia | omega)) ?_
  have least := leastT.perm (srt_perm T).symm
  have trs : srt (srt T) = srt T := srt_eq.mpr (srt_perm T)
  generalize htr : srt T = tr at least trs ⊢
  clear leastT lenT gr htr
  have lenTr := least.1.len
  walk_at "m"
  have tnd := tiesOf_nodup ns
  rw [hts] at tnd
  have hcount := tiesOf_few ns
  rw [hts] at hcount
  have len4 : ∀ t ∈ trees ts, t.length = 4 := fun t ht => (trees_tree tnd ht).len
  refine ex_assign_comp W.ok (clos0 (by rfl) (by decide) (by rfl) (by decide)) (by rfl) (kof W.s (by rfl)) (by unfold swapsWith Env.blockKind Env.kindOf; rw [W.s]; rfl) ?_ (fun _ => rfl)
  walk_at "m"
  refine W.fn (w_trees tok.rg (by (first | lia | omega)) ?_) (by decide) (by decide)
  refine comp_fm (trees ts) gl (fun t => gl (srt t)) (fun _ => true) (((trees ts).map srt).map gl) (by rw [filter_tt, List.map_map]; rfl) (by lia) (fun C t ht ok => ?_) (.inl ?_)
  · have ht4 := len4 t ht
    walk_at "kid"
    walk_at "m"
    refine cl_sorted_gl W.ok (by have := W.u; (first | lia | omega)) (Vw.d _) (by (first | lia | omega)) (by (first | lia | omega)) ?_
    exact ⟨rfl, rfl, rfl⟩
  walk_at "m"
  have lenL : ((trees ts).map srt).length < 64 := by simpa using hcount
  have memL : ∀ c ∈ (trees ts).map srt, IsTree ts c ∧ srt c = c := fun c hc => by
    obtain ⟨d, hd, rfl⟩ := List.mem_map.mp hc
    exact ⟨(trees_tree tnd hd).perm (srt_perm d).symm, srt_eq.mpr (srt_perm d)⟩
  have inL : ∀ U, IsTree ts U → srt U ∈ (trees ts).map srt := fun U hU => by
    obtain ⟨d, hd, p⟩ := tree_trees tnd hU
    exact List.mem_map.mpr ⟨d, hd, srt_eq.mpr p⟩
  have ndL : ((trees ts).map srt).Nodup := nodup_map (trees_nodup tnd) fun a ha b hb e => trees_eq tnd ha hb (srt_eq.mp e)
  have near := led_near least.1 tnd tok
  have trL : tr ∈ (trees ts).map srt := by have := inL tr least.1; rwa [trs] at this
  generalize hLL : (trees ts).map srt = L at lenL memL inL ndL near trL ⊢
  have len4L : ∀ c ∈ L, c.length = 4 := fun c hc => (memL c hc).1.len
  refine ex_assign_comp W.ok (clos0 (by rfl) (by decide) (by rfl) (by decide)) (by rfl) (kof W.s (by rfl)) (by unfold swapsWith Env.blockKind Env.kindOf; rw [W.s]; rfl) ?_ (fun _ => rfl)
  walk_at "m"
  refine comp_fm L gl (fun c => .int (worth c)) (fun _ => true) ((L.map worth).map D.int) (by rw [filter_tt, List.map_map]; rfl) (by lia) (fun C t ht ok => ?_) (.inl ?_)
  · have ht4 := len4L t ht
    walk_at "kid"
    walk_at "m"
    refine W.fn (w_worth (by (first | lia | omega)) ?_) (by decide) (by decide)
    exact ⟨rfl, rfl, rfl⟩
  walk_at "m"
  refine op_notin_list (t := .lst tyT) (Vw.d _) (Vw.d _) (has_gl tr) has_gls (by have := W.u; simp [Ty.depth, depT]; (first | lia | omega)) ?_
  rw [decide_eq_true ((mem_map' gl_inj).mpr trL)]
  walk_at "m"
  refine cl_min W.ok (ns := L.map worth) (Vw.d _) (by simpa using List.length_pos_of_mem trL) fun m hm1 hm2 => ?_
  walk_at "m"
  refine W.fn (w_worth (by (first | lia | omega)) ?_) (by decide) (by decide)
  walk_at "m"
  have hmw : m = worth tr := by
    obtain ⟨c, hc, rfl⟩ := List.mem_map.mp hm1
    have h1 := least.2 c (memL c hc).1
    have h2 := hm2 (worth tr) (List.mem_map_of_mem trL)
    (first | lia | omega)
  rw [hmw, decide_eq_true rfl]
  walk_at "m"
  refine W.fn (w_exch (fun t ht => tok.rg t (least.1.sub t ht)) (by (first | lia | omega)) (by (first | lia | omega)) ?_) (by decide) (by decide)
  walk_at "m"
  have ex3 := exch_three least.1 tnd tok (by (first | lia | omega))
  have ex32 : (exch ts tr).length ≤ 32 := by
    have h1 := exch_len tr ts
    rw [lenTr] at h1
    (first | lia | omega)
  have exnd := exch_nodup least.1.nd tnd
  have exm : ∀ e ∈ exch ts tr, e.2 ∈ tr ∧ IsTree ts (swp tr e) := fun e he => ⟨(exch_mem.mp he).2.2.1, swp_tree least.1 tok he⟩
  obtain ⟨at1, ha1⟩ := Option.isSome_iff_exists.mp (cof hcs (x := Str.ofString "tree") (by rfl))
  obtain ⟨at2, ha2⟩ := Option.isSome_iff_exists.mp (cof hcs (x := Str.ofString "heap") (by rfl))
  refine ex_assign_comp W.ok (clos1 (x := Str.ofString "tree") (a := at1) ha1 (by simp [closureFor, cellOf_eq ha1]) (by decide) (by rw [kof W.s (by rfl)]; decide) (by decide) (by rfl) (by decide)) (by rfl) (kof W.s (by rfl)) (by unfold swapsWith Env.blockKind Env.kindOf; rw [W.s]; rfl) ?_ (fun _ => rfl)
  walk_at "m"
  refine comp_fm (exch ts tr) exD (fun e => gl (srt (swp tr e))) (fun _ => true) (((exch ts tr).map fun e => srt (swp tr e)).map gl) (by rw [filter_tt, List.map_map]; rfl) (by lia) (fun C e hee ok => ?_) (.inl ?_)
  · have he := exm e hee
    have hll := less_nodup_len least.1.nd he.1
    walk_at "kid"
    walk_at "m"
    refine W.fn (w_led (by (first | lia | omega)) (by (first | lia | omega)) fun us hu1 hu2 => ?_) (by decide) (by decide)
    rw [srt_uniq hu1 hu2]
    exact ⟨rfl, rfl, rfl⟩
  walk_at "m"
  refine ex_assign_comp W.ok (clos1 (x := Str.ofString "tree") (a := at1) ha1 (by simp [closureFor, cellOf_eq ha1]) (by decide) (by rw [kof W.s (by rfl)]; decide) (by decide) (by rfl) (by decide)) (by rfl) (kof W.s (by rfl)) (by unfold swapsWith Env.blockKind Env.kindOf; rw [W.s]; rfl) ?_ (fun _ => rfl)
  walk_at "m"
  refine comp_fm L gl gl (fun c => decide (shared tr c = 3)) _ rfl (by lia) (fun C t ht ok => ?_) (.inl ?_)
  · have ht4 := len4L t ht
    walk_at "kid"
    walk_at "m"
    refine ev_comp W.ok (clos1 (x := Str.ofString "tree") (a := at1) (by rfl) (by simp [closureFor]; rw [cellOf_eq (a := at1) (by rfl)]; rfl) (by decide) (by rw [kof W.s (by rfl)]; decide) (by decide) (by rfl) (by decide)) (by rfl) ?_ (fun _ => rfl)
    walk_at "m"
    refine comp_fm t Tie.d Tie.d (fun u => decide (u ∈ tr)) _ rfl (by lia) (fun C2 u hut ok => ?_) (.inl ?_)
    · walk_at "kid"
      walk_at "m"
      refine op_in_list (t := tyT) (Vw.d _) (Vw.d (gl tr)) (has_tie u) has_ties (by have := W.u; rw [depT]; (first | lia | omega)) ?_
      by_cases hu : u ∈ tr
      · rw [decide_eq_true ((mem_map' tie_inj).mpr hu)]
        walk_at "m"
        exact ⟨decide_eq_true hu, rfl, rfl⟩
      · rw [decide_eq_false (fun q => hu ((mem_map' tie_inj).mp q))]
        walk_at "m"
        exact ⟨decide_eq_false hu, rfl⟩
    have hsl : (t.filter fun u => decide (u ∈ tr)).length ≤ t.length := List.length_filter_le _ _
    walk_at "m"
    refine cl_len W.ok (ds := (t.filter fun u => decide (u ∈ tr)).map Tie.d) (Vw.d _) (by simp; (first | lia | omega)) ?_
    walk_at "m"
    rw [List.length_map]
    by_cases h3 : shared tr t = 3
    · rw [decide_eq_true (show ((t.filter fun u => decide (u ∈ tr)).length : Int) = 3 from by unfold shared at h3; (first | lia | omega))]
      walk_at "m"
      exact ⟨decide_eq_true h3, rfl, rfl⟩
    · rw [decide_eq_false (show ¬ ((t.filter fun u => decide (u ∈ tr)).length : Int) = 3 from fun q => h3 (by unfold shared; (first | lia | omega)))]
      walk_at "m"
      exact ⟨decide_eq_false h3, rfl⟩
  have hLz : L.length ≤ 63 := by (first | lia | omega)
  generalize hled : (exch ts tr).map (fun e => srt (swp tr e)) = led at near ⊢
  have lled : led.length = (exch ts tr).length := by rw [← hled, List.length_map]
  generalize hnr : L.filter (fun c => decide (shared tr c = 3)) = nr at near ⊢
  have lnr := near.length_eq
  walk_at "m"
  refine cl_sorted_lists (t := tyT) W.ok (Vw.d _) has_gls (by have := W.u; rw [depT]; (first | lia | omega)) (by rw [List.length_map]; (first | lia | omega)) (by rw [List.length_map]; (first | lia | omega)) fun es1 hp1 hs1 => .inl ?_
  walk_at "m"
  refine cl_sorted_lists (t := tyT) W.ok (Vw.d _) has_gls (by have := W.u; rw [depT]; (first | lia | omega)) (by rw [List.length_map]; (first | lia | omega)) (by rw [List.length_map]; (first | lia | omega)) fun es2 hp2 hs2 => .inl ?_
  have e12 : es1 = es2 := ascD_uniq ((hp1.trans (near.map gl)).trans hp2.symm) hs1 hs2
  subst e12
  have hes : ∀ d ∈ es1, Has (.lst tyT) d := fun d hd => has_gls d (hp1.mem_iff.mp hd)
  refine op_cmp_ne (t := .lst (.lst tyT)) (Vw.d _) (Vw.d _) (has_lst hes) (has_lst hes) (by have := W.u; simp [Ty.depth, depT]; (first | lia | omega)) ?_
  rw [decide_eq_true rfl]
  clear hes hp1 hp2 hs1 hs2
  walk_at "m"
  refine ev_list W.ok ?_
  walk_at "m"
  refine ⟨[], rfl, by simp, .inl ?_⟩
  refine op_cmp_eq (t := .lst (.lst tyT)) (Vw.d _) (Vw.d _) (has_lst has_gls) (has_lst (by simp)) (by have := W.u; simp [Ty.depth, depT]; (first | lia | omega)) ?_
  rw [decide_eq_false (show ¬ D.lst (led.map gl) = D.lst [] from fun q => by
    have := congrArg (fun d : D => match d with | .lst l => l.length | _ => 0) q
    simp at this
    rw [this] at lled; simp at lled; (first | lia | omega))]
  walk_at "m"
  refine ex_assign_cell W.ok how ?_ (kof W.s (by rfl)) (cof hcs (by rfl)) (by with_unfolding_all rfl)
  walk_at "m"
  have lenE : ((exch ts tr).map exD).length = (exch ts tr).length := List.length_map ..
  have hasE : ∀ d ∈ (exch ts tr).map exD, Has (.tup (.int :: [tyT, tyT])) d := fun d hd => by
    obtain ⟨e, -, rfl⟩ := List.mem_map.mp hd
    simp [exD, Has, Hass, has_tie]
  generalize hE : (exch ts tr).map exD = E at lenE hasE ⊢
  refine cl_list W.ok (Vw.d _) (by (first | lia | omega)) (.inr fun ah hah => ?_)
  clear hah
  walk_at "m"
  have depE : (Ty.tup (.int :: [tyT, tyT])).depth = 2 := by simp [Ty.depth, Tys.depth, depT]
  refine W.fn (w_heapify (t := .tup (.int :: [tyT, tyT])) (Sto.set_self _ _ _) (by (first | lia | omega)) hasE (fun l p hp hl d hd => hl d ((siftup_perm TO.ltD hp).mem_iff.mp hd)) ?_) (by decide) (by rw [depE]; decide)
  obtain ⟨hh0, hp0⟩ := heapify_spec TO.ltD E
  rw [Sto.set_set]
  generalize hfy D.lt (E.length / 2) E = h0 at hh0 hp0 ⊢
  walk_at "m"
  refine op_isnot_none (.inl rfl) ?_
  rw [decide_eq_true rfl]
  walk_at "m"
  refine ex_assign_comp W.ok (clos1 (x := Str.ofString "heap") (a := at2) ha2 (by simp [closureFor, cellOf_eq ha2]) (by decide) (by rw [kof W.s (by rfl)]; decide) (by decide) (by rfl) (by decide)) (by rfl) (kof W.s (by rfl)) (by unfold swapsWith Env.blockKind Env.kindOf; rw [W.s]; rfl) ?_ (fun _ => rfl)
  walk_at "m"
  refine ⟨E, fun pre acc σ' => ∃ h : List D, A6 (σ' = Sto.set (fun _ => none) ah h) (HeapFrom D.lt h 0) ((acc ++ h).Perm E) (acc.Pairwise (fun a b => D.lt b a = false)) (∀ a ∈ acc, ∀ d ∈ h, D.lt d a = false) (h.length + pre.length = E.length), rfl, by (first | lia | omega), ⟨h0, rfl, hh0, by simpa using hp0, .nil, by simp, by simpa using hp0.length_eq⟩, ?_, ?_⟩
  · rintro C pre d post acc σ' ok hd ⟨h, rfl, hh, hp, hs, hle, hlen⟩ hl
    have hpos : 0 < h.length := by have := congrArg List.length hd; simp at this; (first | lia | omega)
    obtain ⟨l, x, rfl⟩ : E2 fun l x => h = l ++ [x] := ⟨h.dropLast, h.getLast (by rintro rfl; simp at hpos), (List.dropLast_concat_getLast _).symm⟩
    have hasl : ∀ d ∈ l ++ [x], Has (.tup (.int :: [tyT, tyT])) d := fun d hd => hasE d (hp.mem_iff.mp (List.mem_append_right _ hd))
    have hll : (l ++ [x]).length = l.length + 1 := by simp
    walk_at "kid"
    walk_at "m"
    refine W.fn (w_heappop (t := .tup (.int :: [tyT, tyT])) (l := l) (x := x) (Sto.set_self _ _ _) (by (first | lia | omega)) (fun d hd => hasl d (List.mem_append_left _ hd)) (hasl x (by simp)) ?_) (by decide) (by rw [depE]; decide)
    obtain ⟨c1, c2, c3⟩ := hpop_spec TO.ltD hh
    rw [Sto.set_set]
    generalize hpop D.lt l x = ph at c1 c2 c3 ⊢
    have c2l := c2.length_eq
    simp only [List.length_cons] at c2l
    refine ⟨_, rfl, ph.2, rfl, c1, ?_, ?_, ?_, by simp only [List.length_append, List.length_singleton] at hlen ⊢; (first | lia | omega)⟩
    · have : (acc ++ [ph.1] ++ ph.2).Perm (acc ++ (l ++ [x])) := by
        rw [List.append_assoc]
        exact c2.append_left acc
      exact this.trans hp
    · rw [List.pairwise_append]
      refine ⟨hs, by simp, fun a ha b hb => ?_⟩
      rw [List.mem_singleton.mp hb]
      exact hle a ha _ (c2.mem_iff.mp (.head _))
    · intro a ha d hd
      rcases List.mem_append.mp ha with ha | ha
      · exact hle a ha d (c2.mem_iff.mp (.tail _ hd))
      · rw [List.mem_singleton.mp ha]; exact c3 d hd
  rintro acc σ' ⟨h, rfl, hh, hp, hs, hle, hlen⟩ hl
  have hnil : h = [] := List.length_eq_zero_iff.mp (by (first | lia | omega))
  subst hnil
  rw [List.append_nil] at hp
  clear hle hlen hh hl
  refine .inl ?_
  have lenA := hp.length_eq
  have hasA : ∀ d ∈ acc, Has (.tup (.int :: [tyT, tyT])) d := fun d hd => hasE d (hp.mem_iff.mp hd)
  walk_at "m"
  refine cl_sorted_tups (ts := [tyT, tyT]) W.ok (Vw.d _) hasE (by have := W.u; simp [Tys.depth, Ty.depth, depT]; (first | lia | omega)) (by (first | lia | omega)) (by (first | lia | omega)) fun es hp3 hs3 => .inl ?_
  have e3 : acc = es := ascD_uniq (hp.trans hp3.symm) hs hs3
  subst e3
  refine op_cmp_ne (t := .lst (.tup (.int :: [tyT, tyT]))) (Vw.d _) (Vw.d _) (has_lst hasA) (has_lst hasA) (by have := W.u; simp only [Ty.depth, Tys.depth, depT]; (first | lia | omega)) ?_
  rw [decide_eq_true rfl]
  walk_at "m"
  refine ev_list W.ok ?_
  walk_at "m"
  refine ⟨[], rfl, by simp, .inl ?_⟩
  refine op_cmp_ne (t := .lst .int) (Vw.p (Sto.set_self _ _ _)) (Vw.d _) (has_lst (by simp)) (has_lst (by simp)) (by have := W.u; simp [Ty.depth]; (first | lia | omega)) ?_
  rw [decide_eq_true rfl]
  walk_at "m"
  obtain ⟨d0, rest, rfl⟩ : E2 fun d0 rest => acc = d0 :: rest := by
    match acc, lenA with
    | d0 :: rest, _ => exact ⟨d0, rest, rfl⟩
    | [], h => simp at h; (first | lia | omega)
  obtain ⟨e0, he0, rfl⟩ : ∃ e0 ∈ exch ts tr, exD e0 = d0 := by
    have : d0 ∈ E := hp.mem_iff.mp (.head _)
    rw [← hE] at this
    obtain ⟨e, h1, h2⟩ := List.mem_map.mp this
    exact ⟨e, h1, h2⟩
  have hmin : ∀ e ∈ exch ts tr, e0.1.w - e0.2.w ≤ e.1.w - e.2.w := fun e he => by
    have : exD e ∈ exD e0 :: rest := hp.mem_iff.mpr (by rw [← hE]; exact List.mem_map_of_mem he)
    rcases List.mem_cons.mp this with q | q
    · rw [exD_inj _ _ q]; exact Int.le_refl _
    · exact exD_lt ((List.pairwise_cons.mp hs).1 _ q)
  have hnn := diff_nonneg least tok he0
  have lenR : (exD e0 :: rest).length ≤ 1000 := by (first | lia | omega)
  clear hs hs3 hp3 hasA
  refine op_itemN (i := 0) (Vw.d _) (by simp) (by (first | lia | omega)) ?_ (fun _ _ => rfl)
  rw [show (exD e0 :: rest).getD 0 .none = exD e0 from rfl]
  walk_at "m"
  refine op_ex0 ?_ (fun _ _ => rfl)
  walk_at "m"
  rw [decide_eq_false (by (first | lia | omega))]
  walk_at "m"
  refine op_itemN (i := 0) (Vw.d _) (by simp) (by (first | lia | omega)) ?_ (fun _ _ => rfl)
  rw [show (exD e0 :: rest).getD 0 .none = exD e0 from rfl]
  walk_at "m"
  have hll0 := less_nodup_len least.1.nd (exm e0 he0).1
  refine W.fn (w_led (by (first | lia | omega)) (by (first | lia | omega)) fun us hu1 hu2 => ?_) (by decide) (by decide)
  rw [srt_uniq hu1 hu2, show less tr e0.2 ++ [e0.1] = swp tr e0 from rfl]
  clear hu1 hu2
  have swt := (exm e0 he0).2
  have sw4 : (srt (swp tr e0)).length = 4 := by rw [(srt_perm _).length_eq]; exact swt.len
  walk_at "m"
  refine W.fn (w_worth (by (first | lia | omega)) ?_) (by decide) (by decide)
  rw [worth_perm (srt_perm (swp tr e0)), swp_worth least.1 he0]
  walk_at "m"
  have swL : srt (swp tr e0) ∈ L := inL _ swt
  have swne : srt (swp tr e0) ≠ tr := fun q => by
    have h1 := exch_mem.mp he0
    have p1 : (srt (swp tr e0)).Perm (swp tr e0) := srt_perm _
    rw [q] at p1
    exact h1.2.1 (p1.symm.mem_iff.mp (swp_mem.mpr (.inr rfl)))
  have oth : ∀ c ∈ L, c ≠ tr → worth tr + (e0.1.w - e0.2.w) ≤ worth c := fun c hc hne => others_worth least tok hmin (memL c hc).1 (fun p => hne (by rw [← (memL c hc).2, ← trs]; exact srt_eq.mpr p))
  have sww : worth (srt (swp tr e0)) = worth tr + (e0.1.w - e0.2.w) := by rw [worth_perm (srt_perm (swp tr e0)), swp_worth least.1 he0]
  refine ev_comp W.ok (clos1 (x := Str.ofString "tree") (a := at1) ha1 (by simp [closureFor, cellOf_eq ha1]) (by decide) (by rw [kof W.s (by rfl)]; decide) (by decide) (by rfl) (by decide)) (by rfl) ?_ (fun _ => rfl)
  walk_at "m"
  refine comp_fm L gl (fun c => .int (worth c)) (fun c => decide (c ≠ tr)) (((L.filter fun c => decide (c ≠ tr)).map worth).map D.int) (by rw [List.map_map]; rfl) (by lia) (fun C t ht ok => ?_) (.inl ?_)
  · have ht4 := len4L t ht
    walk_at "kid"
    walk_at "m"
    refine op_cmp_ne (t := .lst tyT) (Vw.d _) (Vw.d _) (has_gl t) (has_gl tr) (by have := W.u; simp [Ty.depth, depT]; (first | lia | omega)) ?_
    by_cases q : t = tr
    · rw [decide_eq_true (congrArg gl q)]
      walk_at "m"
      exact ⟨decide_eq_false (fun z => z q), rfl⟩
    · rw [decide_eq_false (fun z => q (gl_inj _ _ z))]
      walk_at "m"
      refine W.fn (w_worth (by (first | lia | omega)) ?_) (by decide) (by decide)
      exact ⟨decide_eq_true q, rfl, rfl⟩
  walk_at "m"
  have swo : worth (srt (swp tr e0)) ∈ (L.filter fun c => decide (c ≠ tr)).map worth := List.mem_map_of_mem (List.mem_filter.mpr ⟨swL, by simpa using swne⟩)
  refine cl_min W.ok (ns := (L.filter fun c => decide (c ≠ tr)).map worth) (Vw.d _) (List.length_pos_of_mem swo) fun m2 hm3 hm4 => ?_
  have hm2w : m2 = worth tr + (e0.1.w - e0.2.w) := by
    have h1 := hm4 _ swo
    obtain ⟨c, hc, rfl⟩ := List.mem_map.mp hm3
    obtain ⟨c1, c2⟩ := List.mem_filter.mp hc
    have h2 := oth c c1 (by simpa using c2)
    (first | lia | omega)
  rw [hm2w]
  clear hm3 hm4 hm2w
  walk_at "m"
  rw [decide_eq_true rfl]
  walk_at "m1"
  walk_at "m1"
  walk_at "m1"
  walk_at "m1"
  walk_at "m1"
  have lw2 : 2 ≤ (L.map worth).length := by
    rw [List.length_map]
    have := nodup_le (met := [tr, srt (swp tr e0)]) (L := L) (by simp; exact fun q => swne q.symm) fun c hc => by
      rcases List.mem_cons.mp hc with rfl | hc
      · exact trL
      · rcases List.mem_cons.mp hc with rfl | hc
        · exact swL
        · cases hc
    simpa using this
  refine wk_callI W (z := "worths") (by with_unfolding_all rfl) (by with_unfolding_all rfl) (by with_unfolding_all rfl) (by with_unfolding_all rfl) (by with_unfolding_all decide) (by walk_at "lk") (kof W.s (by rfl)) (by decide) (nof W.k (by rfl)) (kof W.s (by rfl)) hfs hff
    (w_nsmallest (ws := L.map worth) lw2 (by simp; (first | lia | omega)) fun p q rst hpq hle hall => ?_) (by decide) (by decide)
  have hp1 : p = worth tr := by
    have h1 : worth tr ∈ p :: q :: rst := hpq.mem_iff.mpr (List.mem_map_of_mem trL)
    have h2 : p ∈ L.map worth := hpq.mem_iff.mp (.head _)
    obtain ⟨c0, hc0, hcw⟩ := List.mem_map.mp h2
    have h3 := least.2 c0 (memL c0 hc0).1
    rcases List.mem_cons.mp h1 with h1 | h1
    · exact h1.symm
    · rcases List.mem_cons.mp h1 with h1 | h1
      · (first | lia | omega)
      · have := hall _ h1; (first | lia | omega)
  have hq1 : q = worth tr + (e0.1.w - e0.2.w) := by
    obtain ⟨l1, l2, hl12⟩ := List.append_of_mem trL
    have ndL' := ndL
    rw [hl12] at ndL' hpq
    have pm : (p :: q :: rst).Perm (worth tr :: (l1 ++ l2).map worth) := by
      refine hpq.trans ?_
      rw [← List.map_cons]
      exact List.Perm.map _ (List.perm_middle)
    rw [hp1] at pm
    have pm2 := pm.cons_inv
    have ndm := (List.perm_middle (a := tr) (l₁ := l1) (l₂ := l2)).nodup_iff.mp ndL'
    have inl : ∀ c, c ∈ l1 ++ l2 → c ∈ L ∧ c ≠ tr := fun c hc => by
      refine ⟨?_, fun z => (List.nodup_cons.mp ndm).1 (z ▸ hc)⟩
      rw [hl12]
      rcases List.mem_append.mp hc with hc | hc
      · exact List.mem_append_left _ hc
      · exact List.mem_append_right _ (.tail _ hc)
    have swin : srt (swp tr e0) ∈ l1 ++ l2 := by
      have := swL
      rw [hl12] at this
      rcases List.mem_append.mp this with z | z
      · exact List.mem_append_left _ z
      · rcases List.mem_cons.mp z with z | z
        · exact absurd z swne
        · exact List.mem_append_right _ z
    have s1 : worth (srt (swp tr e0)) ∈ q :: rst := pm2.mem_iff.mpr (List.mem_map_of_mem swin)
    have s2 : q ∈ (l1 ++ l2).map worth := pm2.mem_iff.mp (.head _)
    obtain ⟨c0, hc0, hcw⟩ := List.mem_map.mp s2
    have s3 := oth c0 (inl c0 hc0).1 (inl c0 hc0).2
    rw [sww] at s1
    rcases List.mem_cons.mp s1 with s1 | s1
    · exact s1.symm
    · have := hall _ s1; (first | lia | omega)
  subst hp1 hq1
  clear hpq hle hall
  walk_at "m"
  refine ev_list W.ok ?_
  walk_at "m"
  refine W.fn (w_worth (by (first | lia | omega)) ?_) (by decide) (by decide)
  walk_at "m"
  refine ⟨[.int (worth tr), .int (worth tr + (e0.1.w - e0.2.w))], rfl, by simp, .inl ?_⟩
  refine op_cmp_ne (t := .lst .int) (Vw.d _) (Vw.d _) (has_lst (by simp [Has])) (has_lst (by simp [Has])) (by have := W.u; simp [Ty.depth]; (first | lia | omega)) ?_
  rw [decide_eq_true rfl]
  walk_at "m"
  refine cl_len W.ok (ds := (L.map worth).map D.int) (Vw.d _) (by simp; (first | lia | omega)) ?_
  rw [List.length_map (f := D.int)]
  walk_at "m"
  refine W.fn (w_nlargest (ws := L.map worth) lw2 (by simp; (first | lia | omega)) fun es1 hp1 hs1 => ?_) (by decide) (by decide)
  refine ev_slice (a := none) (b := none) (st' := none) (ds := []) (es := []) W.ok ?_
  walk_at "m"
  refine cl_sorted_ints (ns := L.map worth) W.ok (Vw.d _) lw2 (by simp; (first | lia | omega)) fun es2 hp2 hs2 => .inl ?_
  walk_at "m"
  refine ev_neg W.ok ?_
  walk_at "m"
  refine ⟨1, rfl, ?_⟩
  have lw := hp2.length_eq
  rw [List.length_map, List.length_map] at lw
  refine ⟨es2, es2.reverse, none, none, some (-1), Vw.d _, .none, .none, .int (-1), by simp, by (first | lia | omega), pick_rev, .inl ?_⟩
  have e12 : es2.reverse = es1.map D.int := by
    refine List.Perm.eq_of_pairwise (le := fun a b => D.lt a b = false) (fun x y _ _ h1 h2 => D.le_antisymm (D.not_lt.mp h2) (D.not_lt.mp h1)) ?_ ?_ ((List.reverse_perm _).trans (hp2.trans (hp1.map D.int).symm))
    · rw [List.pairwise_reverse]; exact hs2
    · rw [List.pairwise_map]
      exact hs1.imp fun h => by simp [D.lt]; exact h
  rw [e12]
  refine op_cmp_eq (t := .lst .int) (Vw.d _) (Vw.d _) has_lint has_lint (by have := W.u; simp [Ty.depth]; (first | lia | omega)) ?_
  rw [decide_eq_true rfl]
  exact kc_ret rfl
end Mine
namespace Mine
set_option maxHeartbeats 8000000
open PySem.SeqAt Classical
set_option pp.deepTerms false
set_option pp.deepTerms.threshold 4
set_option pp.proofs false
theorem final : PySem.Challenge.rw_ir0005_01.Holds := by
  w_on
  refine holds_law said fun ok => ?_
  refine holds_open (q := vw) (loose := loose) (Xt := fun s => xlAt vw [] s && recOk (RowW.records PySem.Challenge.rw_ir0005_01.row.toRowW) s) (XP := XL vw []) (Yf := Hook.obs hookK) (Ya := Hook.val hookK) (YP := Hook.says hookK) (N := 1478)
    left (Hook.of hookK) (Hook.keeps hookK) (fun s e => xl_of s (Bool.and_eq_true_iff.mp e).1) XL.keeps (by rfl) (by rfl) (by rfl) (fun s e => recFacts_of (Bool.and_eq_true_iff.mp e).2) (by rfl) (by first | assumption | decide +kernel) (by decide +kernel) ⟨rfl, rfl, rfl, rfl, rfl, by decide +kernel⟩ ?hw ?hc
  case hw => w_witness2
  clear ok
  k_go0
  rename_i T B TE TW _ _ M _ _ hcd ns hs0 hlay0 hL0 hr0 hl20 _ _ S0 vs _ hL ra w1 r0 hI hr hc1 hc2 K0 hD h₁ tk F oh ot d1 d2 N0 X0
  refine top_bridge (S0 := S0) (ns := ns) ⟨by assumption, ⟨_, T.g⟩, ⟨_, T.b, T.builtins⟩, T.nolimit⟩ F N0 (by rfl) X0 (by decide) (by rfl) ⟨vs, hL, hI⟩ (by rfl) (by rfl) ?_ ?_
  · intro c W hcs how hfs hff hsc
    have hlen : ns.length ≤ 63 := by (first | lia | omega)
    exact w_law hlen ⟨vs, hL, hI⟩ (by with_unfolding_all rfl) (by with_unfolding_all rfl) c W hcs how hfs hff
  · intro h' tk' m' F'
    refine' goodW_bool F' ?g (raisesW_false ?hn) ?hp
    (case g => assumption)
    (case hn => wrow_none_raised)
    (case hp => refine' postW_of ?zs ?zv ?ze; (case zs => o_shape); (case zv => wtm_val); (case ze => first | rfl | w_fin))
end Mine
theorem PySem.Challenge.cw_ir0005_01_holds : PySem.Challenge.rw_ir0005_01.Holds := by
  exact Mine.final
