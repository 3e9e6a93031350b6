/-
  Contracts: join (13), ZZjoin (8); the walk of FnJoinAssociativeCaseTable (3).
-/
import Derived.Test.Qxb6602744aProg
import Derived.WalkKit
import Derived.WalkSpells
namespace Go.Proofs.Qxb6602744a.Walk
set_option linter.unusedVariables false
open Go.RowKit

theorem ret_str {a b : ByteArray} (h : a = b) : Ending.returned (.string a) = .returned (.string b) := by rw [h]
theorem ret_bool {a b : Bool} (h : a = b) : Ending.returned (.bool a) = .returned (.bool b) := by rw [h]

theorem beq_yes {a b : ByteArray} (h : a = b) : (a.toList == b.toList) = true := by rw [h]; exact beq_self_eq_true _
theorem beq_no {a b : ByteArray} (h : ¬ a = b) : (a.toList == b.toList) = false := by
  rw [beq_eq_false_iff_ne]
  intro e
  apply h
  rw [ByteArray.toList_eq, ByteArray.toList_eq] at e
  cases a; cases b
  simp only [ByteArray.mk.injEq]
  exact Array.toList_inj.1 e
theorem empty_no {p : ByteArray} (h : 0 < p.size) : p.toList.isEmpty = false := by
  rw [ByteArray.toList_eq]
  cases hl : p.data.toList with
  | nil =>
    have : p.data.toList.length = 0 := by rw [hl]; rfl
    have e : p.size = p.data.toList.length := rfl
    omega
  | cons _ _ => rfl
theorem empty_yes {p : ByteArray} (h : p.size = 0) : p.toList.isEmpty = true := by
  rw [ByteArray.toList_eq]
  cases hl : p.data.toList with
  | nil => rfl
  | cons x l =>
    have : p.data.toList.length = l.length + 1 := by rw [hl]; rfl
    have e : p.size = p.data.toList.length := rfl
    omega

/-- What join answers. -/
def jn (p k : ByteArray) : ByteArray := if p.size = 0 then k else p ++ ⟨#[46]⟩ ++ k
theorem jn_empty {p : ByteArray} (k : ByteArray) (h : p.size = 0) : jn p k = k := by unfold jn; rw [if_pos h]
theorem jn_some {p : ByteArray} (k : ByteArray) (h : ¬ p.size = 0) : jn p k = p ++ ⟨#[46]⟩ ++ k := by unfold jn; rw [if_neg h]
theorem dot_size : (⟨#[46]⟩ : ByteArray).size = 1 := rfl
theorem jn_size (p k : ByteArray) : (jn p k).size ≤ p.size + 1 + k.size := by
  by_cases h : p.size = 0
  · rw [jn_empty k h]; omega
  · rw [jn_some k h, ByteArray.size_append, ByteArray.size_append, dot_size]; omega
theorem jn_pos {p : ByteArray} (k : ByteArray) (h : ¬ p.size = 0) : ¬ (jn p k).size = 0 := by
  rw [jn_some k h, ByteArray.size_append, ByteArray.size_append, dot_size]; omega

/-- The law's case table. -/
theorem assoc_yes (a b c : ByteArray) (h : ¬ b.size = 0 ∨ a.size = 0) : jn (jn a b) c = jn a (jn b c) := by
  by_cases ha : a.size = 0
  · rw [jn_empty b ha, jn_empty _ ha]
  · have hb : ¬ b.size = 0 := by omega
    rw [jn_some c (jn_pos b ha), jn_some b ha, jn_some _ ha, jn_some c hb]
    simp [ByteArray.append_assoc]
theorem assoc_no (a b c : ByteArray) (ha : ¬ a.size = 0) (hb : b.size = 0) : ¬ jn (jn a b) c = jn a (jn b c) := by
  intro e
  have := congrArg ByteArray.size e
  rw [jn_some c (jn_pos b ha), jn_some b ha, jn_some _ ha, jn_empty c hb] at this
  simp only [ByteArray.size_append, dot_size] at this
  omega

set_option maxHeartbeats 400000 in
theorem join_any (p k : ByteArray) (w : World) (hp : p.size ≤ 16777216) (hk : k.size ≤ 16777216) : Calls Try.prog 13 #[.string p, .string k] w fun e w' => e = .returned (.string (jn p k)) ∧ w' = w := by
  by_cases h : p.size = 0
  · have he := empty_yes h
    have HJ : Hid (k = jn p k) := (jn_empty k h).symm
    clear h
    go_enter Try.func13, Try.ntmps13
    go_wp2
    go_ret
    exact ⟨ret_str HJ.out, rfl⟩
  · have he := empty_no (p := p) (by omega)
    have HJ : Hid (p ++ ⟨#[46]⟩ ++ k = jn p k) := (jn_some k h).symm
    clear h
    go_enter Try.func13, Try.ntmps13
    go_wp2
    go_ret
    exact ⟨ret_str HJ.out, rfl⟩

theorem zzJoin_any (p k : ByteArray) (w : World) (hp : p.size ≤ 16777216) (hk : k.size ≤ 16777216) : Calls Try.prog 8 #[.string p, .string k] w fun e w' => e = .returned (.string (jn p k)) ∧ w' = w := by
  go_enter Try.func8, Try.ntmps8
  go_wp2_with (go_at_call 13; refine (join_any _ _ _ hp hk).mono ?_; rintro e w' ⟨rfl, rfl⟩)
  go_ret
  exact ⟨rfl, rfl⟩

theorem zz (a0 a1 a2 : ByteArray) (w0 : a0.size ≤ maxLen) (w1 : a1.size ≤ maxLen) (w2 : a2.size ≤ maxLen) (w : World) :
    Calls Try.prog 7 #[.string a0, .string a1, .string a2] w fun e w' => (∃ b, e = .returned (.bool b)) ∧ w' = w := by
  unfold maxLen at w0 w1 w2
  go_enter Try.func7, Try.ntmps7
  go_wp2
  all_goals
    go_ret
    exact ⟨⟨_, rfl⟩, rfl⟩

set_option maxHeartbeats 400000 in
theorem walk (a0 : ByteArray) (a1 : ByteArray) (a2 : ByteArray) (w0 : a0.size ≤ maxLen) (w1 : a1.size ≤ maxLen) (w2 : a2.size ≤ maxLen) (w : World) :
    Calls Try.prog 3 #[.string a0, .string a1, .string a2] w fun e w' => e = .returned (.bool true) ∧ Grown w w' := by
  have Z := zz a0 a1 a2 w0 w1 w2
  unfold maxLen at w0 w1 w2
  go_enter Try.func3, Try.ntmps3
  go_wp2_with fail
  refine (Z _).mono ?_
  rintro e w' ⟨⟨b, rfl⟩, rfl⟩
  clear Z
  cases b
  · go_wp2_with fail
    go_ret
    exact ⟨rfl, Grown.refl _⟩
  by_cases h0 : a0.size ≤ 262144
  rotate_left
  · go_wp2_with fail
    go_ret
    exact ⟨rfl, Grown.refl _⟩
  by_cases h1 : a1.size ≤ 262144
  rotate_left
  · go_wp2_with fail
    go_ret
    exact ⟨rfl, Grown.refl _⟩
  by_cases h2 : a2.size ≤ 262144
  rotate_left
  · go_wp2_with fail
    go_ret
    exact ⟨rfl, Grown.refl _⟩
  have hs1 := jn_size a0 a1
  have hs2 := jn_size a1 a2
  go_wp2_with fail
  refine (zzJoin_any a0 a1 _ (by omega) (by omega)).mono ?_
  rintro e wa ⟨rfl, rfl⟩
  go_wp2_with fail
  refine (zzJoin_any (jn a0 a1) a2 _ (by omega) (by omega)).mono ?_
  rintro e wb ⟨rfl, rfl⟩
  go_wp2_with fail
  refine (zzJoin_any a1 a2 _ (by omega) (by omega)).mono ?_
  rintro e wc ⟨rfl, rfl⟩
  go_wp2_with fail
  refine (zzJoin_any a0 (jn a1 a2) _ (by omega) (by omega)).mono ?_
  rintro e wd ⟨rfl, rfl⟩
  by_cases hb : a1.size = 0
  · have hbe := empty_yes hb
    by_cases ha : a0.size = 0
    · have hae := empty_yes ha
      have hq := beq_yes (assoc_yes a0 a1 a2 (.inr ha))
      clear ha hb
      go_wp2_with fail
      go_ret
      exact ⟨by simp, Grown.refl _⟩
    · have hae := empty_no (p := a0) (by omega)
      have hq := beq_no (assoc_no a0 a1 a2 ha hb)
      clear ha hb
      go_wp2_with fail
      go_ret
      exact ⟨by simp, Grown.refl _⟩
  · have hbe := empty_no (p := a1) (by omega)
    have hq := beq_yes (assoc_yes a0 a1 a2 (.inl hb))
    clear hb
    go_wp2_with fail
    go_ret
    exact ⟨by simp, Grown.refl _⟩

end Go.Proofs.Qxb6602744a.Walk
