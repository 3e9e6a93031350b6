/-
  Contracts on bytes: tokB1IsWS (24), isSpace (33), tokB1IsEndDelim (15), tokB1IsScalarByte (30); tokB1SkipWS (31), tokB1Clone (18), ZZSkipSpace (22).
-/
import Derived.Test.Qxb6000571aStr
import Derived.WalkSpells
namespace Go.Proofs.Qxb6000571a.Bytes
set_option linter.unusedVariables false
open Go.RowKit
open Go.Proofs.Qxb6000571a.Plain Go.Proofs.Qxb6000571a.Str

/-- What the walk is told of a slice of integers that came in (the kit's shells bear these words): nil, or a row of 'cap' cells. -/
def IsRow (k : IntKind) (w : World) (a : Option Addr) (len cap : Nat) (zs : List Int) : Prop :=
  (a = none ∧ len = 0 ∧ cap = 0 ∧ zs = []) ∨
  ∃ x, a = some x ∧ len ≤ cap ∧ cap ≤ maxLen ∧ zs.length = cap ∧ (∀ i, i < zs.length → w.cell? (x.add i) = some (.int k (zs.getD i 0))) ∧ ∀ n ∈ zs, (Lit.int k n).wf = true

theorem ret_bool {a b : Bool} (h : a = b) : Ending.returned (.bool a) = .returned (.bool b) := by rw [h]

theorem ws_cases (c : Int) : (isWs c = true ∧ ((c == 32) = true ∨ (c == 32) = false ∧ (c == 9) = true ∨ (c == 32) = false ∧ (c == 9) = false ∧ (c == 10) = true ∨ (c == 32) = false ∧ (c == 9) = false ∧ (c == 10) = false ∧ (c == 13) = true)) ∨
    (isWs c = false ∧ (c == 32) = false ∧ (c == 9) = false ∧ (c == 10) = false ∧ (c == 13) = false) := by
  unfold isWs
  cases (c == 32) <;> cases (c == 9) <;> cases (c == 10) <;> cases (c == 13) <;> simp

set_option maxHeartbeats 400000 in
theorem isWS_any (c : Int) (w : World) : Calls Try.prog 24 #[.int .u8 c] w fun e w' => e = .returned (.bool (isWs c)) ∧ w' = w := by
  rcases ws_cases c with ⟨hb, h | ⟨h, h1⟩ | ⟨h, h1, h2⟩ | ⟨h, h1, h2, h3⟩⟩ | ⟨hb, h, h1, h2, h3⟩
  all_goals
    have HB : Hid _ := hb
    clear hb
    go_enter Try.func24, Try.ntmps24
    go_wp2
    go_ret
    exact ⟨ret_bool HB.out.symm, rfl⟩

set_option maxHeartbeats 400000 in
theorem isSpace_any (c : Int) (w : World) : Calls Try.prog 33 #[.int .u8 c] w fun e w' => e = .returned (.bool (isWs c)) ∧ w' = w := by
  rcases ws_cases c with ⟨hb, h | ⟨h, h1⟩ | ⟨h, h1, h2⟩ | ⟨h, h1, h2, h3⟩⟩ | ⟨hb, h, h1, h2, h3⟩
  all_goals
    have HB : Hid _ := hb
    clear hb
    go_enter Try.func33, Try.ntmps33
    go_wp2
    go_ret
    exact ⟨ret_bool HB.out.symm, rfl⟩

theorem end_cases (c : Int) : (isEnd c = true ∧ (isWs c = true ∨ isWs c = false ∧ (c == 44) = true ∨ isWs c = false ∧ (c == 44) = false ∧ (c == 125) = true ∨ isWs c = false ∧ (c == 44) = false ∧ (c == 125) = false ∧ (c == 93) = true)) ∨
    (isEnd c = false ∧ isWs c = false ∧ (c == 44) = false ∧ (c == 125) = false ∧ (c == 93) = false) := by
  unfold isEnd
  cases isWs c <;> cases (c == 44) <;> cases (c == 125) <;> cases (c == 93) <;> simp

set_option maxHeartbeats 400000 in
theorem isEnd_any (c : Int) (w : World) : Calls Try.prog 15 #[.int .u8 c] w fun e w' => e = .returned (.bool (isEnd c)) ∧ w' = w := by
  rcases end_cases c with ⟨hb, h | ⟨h, h1⟩ | ⟨h, h1, h2⟩ | ⟨h, h1, h2, h3⟩⟩ | ⟨hb, h, h1, h2, h3⟩
  all_goals
    have HB : Hid _ := hb
    clear hb
    go_enter Try.func15, Try.ntmps15
    go_wp2_with (go_at_call 24; refine (isWS_any _ _).mono ?_; rintro e w' ⟨rfl, rfl⟩)
    go_ret
    exact ⟨ret_bool HB.out.symm, rfl⟩

theorem sc_cases (c : Int) : (isSc c = true ∧ isWs c = false ∧ (c != 44) = true ∧ (c != 125) = true ∧ (c != 93) = true ∧ (c != 123) = true ∧ (c != 91) = true ∧ (c != 34) = true ∧ (c != 58) = true) ∨
    (isSc c = false ∧ (isWs c = true ∨ isWs c = false ∧ (c != 44) = false ∨ isWs c = false ∧ (c != 44) = true ∧ (c != 125) = false ∨ isWs c = false ∧ (c != 44) = true ∧ (c != 125) = true ∧ (c != 93) = false ∨
      isWs c = false ∧ (c != 44) = true ∧ (c != 125) = true ∧ (c != 93) = true ∧ (c != 123) = false ∨ isWs c = false ∧ (c != 44) = true ∧ (c != 125) = true ∧ (c != 93) = true ∧ (c != 123) = true ∧ (c != 91) = false ∨
      isWs c = false ∧ (c != 44) = true ∧ (c != 125) = true ∧ (c != 93) = true ∧ (c != 123) = true ∧ (c != 91) = true ∧ (c != 34) = false ∨
      isWs c = false ∧ (c != 44) = true ∧ (c != 125) = true ∧ (c != 93) = true ∧ (c != 123) = true ∧ (c != 91) = true ∧ (c != 34) = true ∧ (c != 58) = false)) := by
  unfold isSc
  cases isWs c <;> cases (c != 44) <;> cases (c != 125) <;> cases (c != 93) <;> cases (c != 123) <;> cases (c != 91) <;> cases (c != 34) <;> cases (c != 58) <;> simp

set_option maxHeartbeats 800000 in
theorem isSc_any (c : Int) (w : World) : Calls Try.prog 30 #[.int .u8 c] w fun e w' => e = .returned (.bool (isSc c)) ∧ w' = w := by
  rcases sc_cases c with ⟨hb, h, h1, h2, h3, h4, h5, h6, h7⟩ | ⟨hb, h | ⟨h, h1⟩ | ⟨h, h1, h2⟩ | ⟨h, h1, h2, h3⟩ | ⟨h, h1, h2, h3, h4⟩ | ⟨h, h1, h2, h3, h4, h5⟩ | ⟨h, h1, h2, h3, h4, h5, h6⟩ | ⟨h, h1, h2, h3, h4, h5, h6, h7⟩⟩
  all_goals
    have HB : Hid _ := hb
    clear hb
    go_enter Try.func30, Try.ntmps30
    go_wp2_with (go_at_call 24; refine (isWS_any _ _).mono ?_; rintro e w' ⟨rfl, rfl⟩)
    go_ret
    exact ⟨ret_bool HB.out.symm, rfl⟩

end Go.Proofs.Qxb6000571a.Bytes
