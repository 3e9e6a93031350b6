/-
  The walk of FnSkipSpaceStopsAtFirstNonSpace (8).
-/
import Derived.Test.Qxb6000571aSkip
import Derived.OpenShut
namespace Go.Proofs.Qxb6000571a.Walk3
set_option linter.unusedVariables false
open Go.RowKit
open Go.Proofs.Qxb6000571a.Plain Go.Proofs.Qxb6000571a.Str Go.Proofs.Qxb6000571a.Bytes Go.Proofs.Qxb6000571a.Skp

theorem zz (a0 : Option Addr) (n cap : Nat) (a1 : Int) (w : World) (hn : n ≤ maxLen) :
    Calls Try.prog 23 #[.slice a0 n cap, .int .i64 a1] w fun e w' => (∃ b, e = .returned (.bool b)) ∧ w' = w := by
  unfold maxLen at hn
  go_enter Try.func23, Try.ntmps23
  go_wp2
  all_goals
    go_ret
    exact ⟨⟨_, rfl⟩, rfl⟩

theorem row_le {w : World} {a0 : Option Addr} {n cap : Nat} {zs : List Int} (h : IsRow .u8 w a0 n cap zs) : n ≤ maxLen := by
  rcases h with ⟨_, rfl, _⟩ | ⟨x, _, h1, h2, _⟩
  · exact Nat.zero_le _
  · omega

set_option maxHeartbeats 800000 in
theorem walk (a0 : Option Addr) (len0 cap0 : Nat) (z0 : List Int) (a1 : Int) (w : World) (w0 : IsRow .u8 w a0 len0 cap0 z0) (w1 : (Lit.int .i64 a1).wf = true) :
    Calls Try.prog 8 #[.slice a0 len0 cap0, .int .i64 a1] w fun e w' => e = .returned (.bool true) ∧ Below w.heap.size w w' := by
  have hle := row_le w0
  have Z := zz a0 len0 cap0 a1 w hle
  unfold maxLen at hle
  have hwf := bounds_i64 w1
  have HR : Hid _ := w0
  clear w0 w1
  go_enter Try.func8, Try.ntmps8
  go_wp2_with fail
  refine Z.mono ?_
  rintro e w' ⟨⟨b, rfl⟩, rfl⟩
  clear Z
  cases b
  · go_wp2_with fail
    go_ret
    exact ⟨rfl, Below.refl _ _⟩
  by_cases hn : len0 ≤ 1048576
  rotate_left
  · go_wp2_with fail
    go_ret
    exact ⟨rfl, Below.refl _ _⟩
  by_cases hpos : 0 ≤ a1
  rotate_left
  · go_wp2_with fail
    go_ret
    exact ⟨rfl, Below.refl _ _⟩
  obtain ⟨i, rfl⟩ := Int.eq_ofNat_of_zero_le hpos
  go_wp2_with fail
  by_cases hs : a0.isSome = true
  · obtain ⟨L, hL, -, hcl⟩ := clone_row a0 len0 cap0 z0 w' HR.out hn (.inr hs)
    refine hcl.mono ?_
    rintro e wa ⟨rfl, ho, hb⟩
    have hG := ho.lt.2
    have hc : ∀ k, k < len0 → wa.cell? ⟨w'.heap.size, k, none⟩ = some (.int .u8 (at' L k)) := fun k hk => ho.cell k (by omega)
    have HC : Hid (∀ k, k < len0 → wa.cell? ⟨w'.heap.size, k, none⟩ = some (.int .u8 (at' L k))) := hc
    have hsz := hb.size
    clear ho hcl hL hc HR hs
    generalize at' L = f at HC
    clear L
    go_wp2_with fail
    refine (zzSkipSpace_any w'.heap.size len0 len0 i (some ⟨w'.heap.size, 0, none⟩) f wa (by omega) (by omega) (fun _ => rfl) (fun _ => hG) HC.out).mono ?_
    rintro e wb ⟨j, hs, rfl, hb2⟩
    have hc : ∀ k, k < len0 → wb.cell? ⟨w'.heap.size, k, none⟩ = some (.int .u8 (f k)) := fun k hk => (hb2.cell (p := ⟨w'.heap.size, k, none⟩) hG).trans (HC.out k hk)
    have HB : Hid (Below w'.heap.size w' wb) := hb.trans (hb2.mono hsz)
    have HS : Hid (Skip f len0 i j) := hs
    have hs1 := hs.1
    have hs2 : j ≤ len0 ∨ j ≤ i := by have := hs.2.1; omega
    clear hs hb hb2 HC hsz hG
    by_cases hil : len0 ≤ i
    · obtain rfl : j = i := by omega
      go_wp2_with fail
      go_ret
      exact ⟨by simp, HB.out⟩
    · have hs3 : j ≤ len0 := by omega
      have hd1 : ¬ j < i := by omega
      have hd2 : ¬ len0 < j := by omega
      clear hs2
      go_wp2_with fail
      go_loop [6] (fun x => ∃ k : Nat, i ≤ k ∧ k ≤ j ∧ x = .int .i64 k) (fun x => j - (intOf x).toNat)
      case atStart => exact ⟨i, Nat.le_refl _, hs1, rfl⟩
      case round =>
        obtain ⟨k, hk1, hk2, rfl⟩ := hrel
        by_cases hlt : k < j
        · have hcell := hc k (by omega)
          have hw : isWs (f k) = true := HS.out.2.2.1 k hk1 hlt
          clear hc
          go_wp2_with (go_at_call 24; refine (isWS_any _ _).mono ?_; rintro e w' ⟨rfl, rfl⟩)
          go_round
          case rel => exact ⟨k + 1, by omega, hlt, by go_num⟩
          case measure => simp [intOf]; omega
        · by_cases hjn : j = len0
          · have hjn' : ((j : Int) == (len0 : Int)) = true := by simp [hjn]
            clear hjn hc
            go_wp2_with (go_at_call 24; refine (isWS_any _ _).mono ?_; rintro e w' ⟨rfl, rfl⟩)
            go_ret
            exact ⟨by simp, HB.out⟩
          · have hjl : j < len0 := by omega
            have hjb : ¬ j = len0 := by omega
            have hw : isWs (f j) = false := by
              rcases HS.out.2.2.2 with h | h
              · omega
              · exact h
            have hcell := hc j (by omega)
            clear hjn hc
            go_wp2_with (go_at_call 24; refine (isWS_any _ _).mono ?_; rintro e w' ⟨rfl, rfl⟩)
            go_ret
            exact ⟨by simp, HB.out⟩
  · rcases HR.out with ⟨rfl, rfl, rfl, rfl⟩ | ⟨x, rfl, _⟩
    · refine (clone_nil w').mono ?_
      rintro e wa ⟨rfl, rfl⟩
      go_wp2_with fail
      refine (zzSkipSpace_any 0 0 0 i none (fun _ => 0) wa (by omega) (by omega) (fun h => absurd h (by omega)) (fun h => absurd h (by omega)) (fun k hk => absurd hk (by omega))).mono ?_
      rintro e wb ⟨j, hs, rfl, hb2⟩
      obtain rfl : j = i := by have := hs.1; have := hs.2.1; omega
      clear hs HR
      go_wp2_with fail
      go_ret
      exact ⟨by simp, hb2⟩
    · simp at hs

end Go.Proofs.Qxb6000571a.Walk3
