/-
  Contracts: zzCapped_b1 (33), zzStr_b1 (27), zzStrs_b1 (9), zzBytes_FnSourcesOfLongestEntryPrefix (26), zzPointerFits_b1 (28): how large the arguments are.
-/
import Derived.Test.Qxb6601102aProg
import Derived.WalkKit
import Derived.WalkSpells
namespace Go.Proofs.Qxb6601102a.Sizes
set_option linter.unusedVariables false
open Go.RowKit

/-- A slice of n strings, as a walk wants it: where there is an element the address is plain and the cells hold the strings. -/
def Sl (w : World) (a : Option Addr) (n : Nat) (sf : Nat → ByteArray) : Prop :=
  0 < n → ∃ b off, a = some ⟨b, off, none⟩ ∧ b < w.heap.size ∧ ∀ k, k < n → w.cell? ⟨b, off + k, none⟩ = some (.string (sf k))

def capI (x : Int) : Int := if 1048576 < x then 1048577 else x
theorem capI_bd (x : Int) (h : 0 ≤ x) : 0 ≤ capI x ∧ capI x ≤ 1048577 := by unfold capI; split <;> omega
theorem capI_le (x : Int) (h : capI x ≤ 1048576) : x ≤ 1048576 := by unfold capI at h; split at h <;> omega
theorem ret_int {k : IntKind} {a b : Int} (h : a = b) : Ending.returned (.int k a) = .returned (.int k b) := by rw [h]

theorem capped_any (x : Int) (w : World) : Calls Try.prog 33 #[.int .i64 x] w fun e w' => e = .returned (.int .i64 (capI x)) ∧ w' = w := by
  by_cases h : 1048576 < x
  · have H : Hid (capI x = 1048577) := by show _ = _; unfold capI; rw [if_pos h]
    go_enter Try.func33, Try.ntmps33
    go_wp2
    go_ret
    exact ⟨ret_int H.out.symm, rfl⟩
  · have H : Hid (capI x = x) := by show _ = _; unfold capI; rw [if_neg h]
    go_enter Try.func33, Try.ntmps33
    go_wp2
    go_ret
    exact ⟨ret_int H.out.symm, rfl⟩

theorem str_any (s : ByteArray) (w : World) (hs : s.size ≤ maxLen) : Calls Try.prog 27 #[.string s] w fun e w' => e = .returned (.int .i64 (capI s.size)) ∧ w' = w := by
  unfold maxLen at hs
  go_enter Try.func27, Try.ntmps27
  go_wp2_with (go_at_call 33; refine (capped_any _ _).mono ?_; rintro e w' ⟨rfl, rfl⟩)
  go_ret
  exact ⟨rfl, rfl⟩

set_option maxHeartbeats 400000 in
theorem strs_any (a : Option Addr) (n cap : Nat) (sf : Nat → ByteArray) (w : World) (hn : n ≤ maxLen) (hS : Sl w a n sf) (hz : ∀ k, k < n → (sf k).size ≤ maxLen) :
    Calls Try.prog 9 #[.slice a n cap] w fun e w' => (∃ x : Int, 0 ≤ x ∧ x ≤ 1048577 ∧ e = .returned (.int .i64 x)) ∧ w' = w := by
  unfold maxLen at hn
  have HS : Hid (Sl w a n sf) := hS
  have HZ : Hid (∀ k, k < n → (sf k).size ≤ maxLen) := hz
  clear hS hz
  by_cases hbig : n ≤ 1048576
  rotate_left
  · go_enter Try.func9, Try.ntmps9
    go_wp2_with fail
    go_ret
    exact ⟨⟨_, by omega, by omega, rfl⟩, rfl⟩
  go_enter Try.func9, Try.ntmps9
  go_wp2_with fail
  go_loop [3, 14] (fun t i => ∃ (k : Nat) (x : Int), k ≤ n ∧ 0 ≤ x ∧ x ≤ 16777216 ∧ i = .int .i64 k ∧ t = .int .i64 x) (fun _ i => n - (intOf i).toNat)
  case atStart => exact ⟨0, 16 * n, Nat.zero_le _, by omega, by omega, rfl, rfl⟩
  case round =>
    obtain ⟨k, x, hk, hx0, hx1, rfl, rfl⟩ := hrel
    by_cases hlt : k < n
    · obtain ⟨b, off, rfl, hb, hc⟩ := HS.out (by omega)
      have hcell := hc k hlt
      have hsz := HZ.out k hlt
      unfold maxLen at hsz
      clear hc HS HZ
      by_cases hl : (sf k).size ≤ 1048576
      · have hcb := capI_bd (x + (sf k).size) (by omega)
        go_wp2_with (go_at_call 33; refine (capped_any _ _).mono ?_; rintro e w' ⟨rfl, rfl⟩)
        go_round
        case rel => exact ⟨k + 1, _, hlt, hcb.1, by omega, by go_num, rfl⟩
        case measure => simp [intOf]; omega
      · go_wp2_with (go_at_call 33; refine (capped_any _ _).mono ?_; rintro e w' ⟨rfl, rfl⟩)
        go_ret
        exact ⟨⟨_, by omega, by omega, rfl⟩, rfl⟩
    · have hcb := capI_bd x hx0
      go_wp2_with (go_at_call 33; refine (capped_any _ _).mono ?_; rintro e w' ⟨rfl, rfl⟩)
      go_ret
      exact ⟨⟨_, hcb.1, hcb.2, rfl⟩, rfl⟩

/-- It answers a bool. -/
def SomeBool (e : Ending) : Prop := ∃ b, e = .returned (.bool b)
theorem SomeBool.mk (b : Bool) : SomeBool (.returned (.bool b)) := ⟨b, rfl⟩

set_option maxHeartbeats 800000 in
theorem zz_any (a a' : Option Addr) (n cap n' cap' : Nat) (sf sf' : Nat → ByteArray) (s2 s3 s4 : ByteArray) (w : World) (hn : n ≤ maxLen) (hn' : n' ≤ maxLen) (hS : Sl w a n sf) (hz : ∀ k, k < n → (sf k).size ≤ maxLen) (hS' : Sl w a' n' sf') (hz' : ∀ k, k < n' → (sf' k).size ≤ maxLen)
    (h2 : s2.size ≤ maxLen) (h3 : s3.size ≤ maxLen) (h4 : s4.size ≤ maxLen) :
    Calls Try.prog 26 #[.slice a n cap, .slice a' n' cap', .string s2, .string s3, .string s4] w fun e w' => SomeBool e ∧ w' = w := by
  unfold maxLen at hn hn' h2 h3 h4
  have HS : Hid (Sl w a n sf) := hS
  have HZ : Hid (∀ k, k < n → (sf k).size ≤ maxLen) := hz
  have HS' : Hid (Sl w a' n' sf') := hS'
  have HZ' : Hid (∀ k, k < n' → (sf' k).size ≤ maxLen) := hz'
  clear hS hz hS' hz'
  by_cases hbig : n ≤ 1048576
  rotate_left
  · go_enter Try.func26, Try.ntmps26
    go_wp2_with fail
    go_ret
    exact ⟨SomeBool.mk _, rfl⟩
  have hb1 : ¬ 1048576 < n := by omega
  go_enter Try.func26, Try.ntmps26
  go_wp2_with fail
  go_loop [11, 12] (fun t i => ∃ (k : Nat) (x : Int), k ≤ n ∧ 0 ≤ x ∧ x ≤ 1048576 ∧ i = .int .i64 k ∧ t = .int .i64 x) (fun _ i => n - (intOf i).toNat)
  case atStart => exact ⟨0, n, Nat.zero_le _, by omega, by omega, rfl, rfl⟩
  case round =>
    obtain ⟨k, x, hk, hx0, hx1, rfl, rfl⟩ := hrel
    by_cases hlt : k < n
    · obtain ⟨b, off, rfl, hb, hc⟩ := HS.out (by omega)
      have hcell := hc k hlt
      have hsz := HZ.out k hlt
      unfold maxLen at hsz
      clear hc HS HZ HS' HZ'
      by_cases hl : (sf k).size ≤ 1048576
      · by_cases hl2 : x + (sf k).size ≤ 1048576
        · go_wp2_with fail
          go_round
          case rel => exact ⟨k + 1, _, hlt, by omega, hl2, by go_num, rfl⟩
          case measure => simp [intOf]; omega
        · go_wp2_with fail
          go_ret
          exact ⟨SomeBool.mk _, rfl⟩
      · go_wp2_with fail
        go_ret
        exact ⟨SomeBool.mk _, rfl⟩
    · clear HS HZ
      by_cases hbig' : n' ≤ 1048576
      rotate_left
      · go_wp2_with fail
        go_ret
        exact ⟨SomeBool.mk _, rfl⟩
      by_cases hsum : x + n' ≤ 1048576
      rotate_left
      · go_wp2_with fail
        go_ret
        exact ⟨SomeBool.mk _, rfl⟩
      have hb2 : ¬ 1048576 < n' := by omega
      have hb3 : ¬ 1048576 < x + n' := by omega
      go_wp2_with fail
      go_loop [11, 13] (fun t i => ∃ (k : Nat) (x : Int), k ≤ n' ∧ 0 ≤ x ∧ x ≤ 1048576 ∧ i = .int .i64 k ∧ t = .int .i64 x) (fun _ i => n' - (intOf i).toNat)
      case atStart => exact ⟨0, x + n', Nat.zero_le _, by omega, by omega, rfl, rfl⟩
      case round =>
        clear hsum hb3 hx0 hx1 hk hlt
        obtain ⟨k, x, hk, hx0, hx1, rfl, rfl⟩ := hrel
        by_cases hlt : k < n'
        · obtain ⟨b, off, rfl, hb, hc⟩ := HS'.out (by omega)
          have hcell := hc k hlt
          have hsz := HZ'.out k hlt
          unfold maxLen at hsz
          clear hc HS' HZ'
          by_cases hl : (sf' k).size ≤ 1048576
          · by_cases hl2 : x + (sf' k).size ≤ 1048576
            · go_wp2_with fail
              go_round
              case rel => exact ⟨k + 1, _, hlt, by omega, hl2, by go_num, rfl⟩
              case measure => simp [intOf]; omega
            · go_wp2_with fail
              go_ret
              exact ⟨SomeBool.mk _, rfl⟩
          · go_wp2_with fail
            go_ret
            exact ⟨SomeBool.mk _, rfl⟩
        · clear HS' HZ'
          go_wp2_with fail
          all_goals
            go_ret
            exact ⟨SomeBool.mk _, rfl⟩

end Go.Proofs.Qxb6601102a.Sizes
