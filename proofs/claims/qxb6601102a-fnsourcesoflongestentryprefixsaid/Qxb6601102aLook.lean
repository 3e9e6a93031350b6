/-
  The contract of zzLookup_b1 (30); strings.LastIndex (47) at a slash.
-/
import Derived.Test.Qxb6601102aStrs
namespace Go.Proofs.Qxb6601102a.Look
set_option linter.unusedVariables false
open Go.RowKit
open Go.Proofs.Qxb6601102a.Sizes Go.Proofs.Qxb6601102a.Strs

/-- The last of the first k pairs with that key. -/
def lk (kf vf : Nat → ByteArray) (key : ByteArray) : Nat → Option ByteArray
  | 0 => none
  | k + 1 => if kf k = key then some (vf k) else lk kf vf key k

theorem lk_hit {kf vf : Nat → ByteArray} {key : ByteArray} {k : Nat} (h : kf k = key) : lk kf vf key (k + 1) = some (vf k) := by simp [lk, h]
theorem lk_miss {kf vf : Nat → ByteArray} {key : ByteArray} {k : Nat} (h : ¬ kf k = key) : lk kf vf key (k + 1) = lk kf vf key k := by simp [lk, h]

theorem ret_sb {a b : ByteArray} {c d : Bool} (h : a = b) (h' : c = d) : Ending.returned (.tuple #[.string a, .bool c]) = .returned (.tuple #[.string b, .bool d]) := by rw [h, h']
theorem beq_yes {a b : ByteArray} (h : a = b) : (a.toList == b.toList) = true := by rw [h]; exact beq_self_eq_true _
theorem beq_no {a b : ByteArray} (h : ¬ a = b) : (a.toList == b.toList) = false := by
  rw [beq_eq_false_iff_ne]
  intro e
  apply h
  rw [ByteArray.toList_eq, ByteArray.toList_eq] at e
  cases a; cases b
  simp only [ByteArray.mk.injEq]
  exact Array.toList_inj.1 e

set_option maxHeartbeats 400000 in
theorem lookup_any (a a' : Option Addr) (n cap cap' : Nat) (kf vf : Nat → ByteArray) (key : ByteArray) (w : World) (hn : n ≤ 1048576) (hS : Sl w a n kf) (hS' : Sl w a' n vf) :
    Calls Try.prog 30 #[.slice a n cap, .slice a' n cap', .string key] w fun e w' => e = .returned (.tuple #[.string ((lk kf vf key n).getD ⟨#[]⟩), .bool (lk kf vf key n).isSome]) ∧ w' = w := by
  have HS : Hid (Sl w a n kf) := hS
  have HS' : Hid (Sl w a' n vf) := hS'
  clear hS hS'
  go_enter Try.func30, Try.ntmps30
  go_wp2_with fail
  go_loop [8, 9, 10] (fun v o i => ∃ (k : Nat) (sv : ByteArray) (so : Bool), k ≤ n ∧ i = .int .i64 k ∧ v = .string sv ∧ o = .bool so ∧ Hid (sv = (lk kf vf key k).getD ⟨#[]⟩ ∧ so = (lk kf vf key k).isSome)) (fun _ _ i => n - (intOf i).toNat)
  case atStart => exact ⟨0, _, _, Nat.zero_le _, rfl, rfl, rfl, rfl, rfl⟩
  case round =>
    obtain ⟨k, sv, so, hk, rfl, rfl, rfl, HL⟩ := hrel
    by_cases hlt : k < n
    · obtain ⟨b, off, rfl, hb, hc⟩ := HS.out (by omega)
      obtain ⟨b', off', rfl, hb', hc'⟩ := HS'.out (by omega)
      have hcell := hc k hlt
      have hcell' := hc' k hlt
      clear hc hc' HS HS'
      by_cases hq : kf k = key
      · have hq' := beq_yes hq
        have HL' : Hid (vf k = (lk kf vf key (k + 1)).getD ⟨#[]⟩ ∧ true = (lk kf vf key (k + 1)).isSome) := by
          show _ ∧ _
          rw [lk_hit hq]; exact ⟨rfl, rfl⟩
        clear hq HL
        go_wp2_with fail
        go_round
        case rel => exact ⟨k + 1, _, _, hlt, by go_num, rfl, rfl, HL'⟩
        case measure => simp [intOf]; omega
      · have hq' := beq_no hq
        have HL' : Hid (sv = (lk kf vf key (k + 1)).getD ⟨#[]⟩ ∧ so = (lk kf vf key (k + 1)).isSome) := by
          show _ ∧ _
          rw [lk_miss hq]; exact HL.out
        clear hq HL
        go_wp2_with fail
        go_round
        case rel => exact ⟨k + 1, _, _, hlt, by go_num, rfl, rfl, HL'⟩
        case measure => simp [intOf]; omega
    · obtain rfl : k = n := by omega
      clear HS HS'
      go_wp2_with fail
      go_ret2
      exact ⟨ret_sb HL.out.1 HL.out.2, rfl⟩

/-! ### strings.LastIndex at a slash -/
/-- r is the last slash of p. -/
def LastSlash (p : ByteArray) (r : Nat) : Prop := ∃ h : r < p.size, (p[r].toNat : Int) = 47 ∧ ∀ j, r < j → ∀ hj : j < p.size, (p[j].toNat : Int) ≠ 47

set_option maxHeartbeats 400000 in
theorem lastByte_any (p : ByteArray) (w : World) (hp : p.size ≤ 4611686018427387904) (h0 : 0 < p.size) (hs : (p[0].toNat : Int) = 47) :
    Calls Try.prog 50 #[.string p, .int .u8 47] w fun e w' => ∃ r : Nat, LastSlash p r ∧ e = .returned (.int .i64 r) ∧ w' = w := by
  have HS : Hid ((p[0].toNat : Int) = 47) := hs
  clear hs
  go_enter Try.func50, Try.ntmps50
  go_wp2_with fail
  go_loop [5] (fun x => ∃ r : Nat, r < p.size ∧ x = .int .i64 r ∧ Hid (∀ j, r < j → ∀ hj : j < p.size, (p[j].toNat : Int) ≠ 47)) (fun x => (intOf x + 1).toNat)
  case atStart => exact ⟨p.size - 1, by omega, by go_num, fun j hj hj' => absurd hj (by omega)⟩
  case round =>
    obtain ⟨r, hr, rfl, HR⟩ := hrel
    by_cases hq : (p[r].toNat : Int) = 47
    · have hq' : ((p[r].toNat : Int) == 47) = true := by simp [hq]
      have HL : Hid (LastSlash p r) := ⟨hr, hq, HR.out⟩
      clear hq HR HS
      go_wp2_with fail
      go_ret
      exact ⟨r, HL.out, rfl, rfl⟩
    · have hq' : ((p[r].toNat : Int) == 47) = false := by simp [hq]
      have hr0 : 0 < r := by
        rcases Nat.eq_zero_or_pos r with h | h
        · subst h; exact absurd HS.out hq
        · exact h
      have HR' : Hid (∀ j, r - 1 < j → ∀ hj : j < p.size, (p[j].toNat : Int) ≠ 47) := by
        intro j h1 h2
        by_cases e : j = r
        · subst e; exact hq
        · exact HR.out j (by omega) h2
      clear hq HR HS
      go_wp2_with fail
      go_round
      case rel => exact ⟨r - 1, by omega, by go_num, HR'⟩
      case measure => simp [intOf]

theorem lastIndex_any (p : ByteArray) (w : World) (hp : p.size ≤ 4611686018427387904) (h0 : 0 < p.size) (hs : (p[0].toNat : Int) = 47) :
    Calls Try.prog 47 #[.string p, .string ⟨#[47]⟩] w fun e w' => ∃ r : Nat, LastSlash p r ∧ e = .returned (.int .i64 r) ∧ w' = w := by
  go_enter Try.func47, Try.ntmps47
  go_wp2_with fail
  refine (lastByte_any p _ hp h0 hs).mono ?_
  rintro e w' ⟨r, hr, rfl, rfl⟩
  have HR : Hid (LastSlash p r) := hr
  clear hr hs
  go_wp2_with fail
  go_ret
  exact ⟨r, HR.out, rfl, rfl⟩

end Go.Proofs.Qxb6601102a.Look
