/-
  Contracts: tokB1ParseValue (19), by induction; tokB1ParseArray (21) without a hypothesis.
-/
import Derived.Test.Qxb6000571aObj
namespace Go.Proofs.Qxb6000571a.Parse
set_option linter.unusedVariables false
open Go.RowKit
open Go.Proofs.Qxb6000571a.Plain Go.Proofs.Qxb6000571a.Str Go.Proofs.Qxb6000571a.Bytes Go.Proofs.Qxb6000571a.Skp Go.Proofs.Qxb6000571a.Vl

set_option maxRecDepth 100000 in
set_option maxHeartbeats 800000 in
theorem pv_step (g n cap i : Nat) (f : Nat → Int) (w : World) (hn : n ≤ 2305843009213693952) (hi : i ≤ n) (hc : ∀ k, k < n → w.cell? ⟨g, k, none⟩ = some (.int .u8 (f k)))
    (hpv : ∀ j, i < j → j ≤ n → Calls Try.prog 19 #[.slice (some ⟨g, 0, none⟩) n cap, .int .i64 j] w fun en w' => PV f n j en ∧ w' = w) :
    Calls Try.prog 19 #[.slice (some ⟨g, 0, none⟩) n cap, .int .i64 i] w fun en w' => PV f n i en ∧ w' = w := by
  have HC : Hid (∀ k, k < n → w.cell? ⟨g, k, none⟩ = some (.int .u8 (f k))) := hc
  have HPV : Hid (∀ j, i < j → j ≤ n → Calls Try.prog 19 #[.slice (some ⟨g, 0, none⟩) n cap, .int .i64 j] w fun en w' => PV f n j en ∧ w' = w) := hpv
  clear hc hpv
  by_cases hin : i < n
  rotate_left
  · go_enter Try.func19, Try.ntmps19
    go_wp2_with fail
    go_ret2
    exact ⟨.inr rfl, rfl⟩
  have hcell := HC.out i hin
  by_cases h34 : f i = 34
  · have h34' : (f i == 34) = true := by simp [h34]
    have HQ : Hid (f i = 34) := h34
    clear h34
    go_enter Try.func19, Try.ntmps19
    go_wp2_with fail
    refine (ps_any g n cap i f _ hn hin HC.out).mono ?_
    rintro en w1 ⟨hps, rfl⟩
    rcases hps with ⟨e, hs, rfl⟩ | rfl
    · have HV : Hid (Val f n i e) := .inl ⟨HQ.out, hs⟩
      clear hs HQ
      go_wp2_with fail
      go_ret2
      exact ⟨.inl ⟨e, HV.out, rfl⟩, rfl⟩
    · go_wp2_with fail
      go_ret2
      exact ⟨.inr rfl, rfl⟩
  have h34' : (f i == 34) = false := by simp [h34]
  by_cases h91 : f i = 91
  · have h91' : (f i == 91) = true := by simp [h91]
    have HQ : Hid (f i = 91) := h91
    clear h34 h91
    go_enter Try.func19, Try.ntmps19
    go_wp2_with fail
    refine (pa_any g n cap i f _ hn hin HC.out HPV.out).mono ?_
    rintro en w1 ⟨hpa, rfl⟩
    rcases hpa with ⟨e, m, ⟨j, hs, har⟩, rfl⟩ | rfl
    · have HV : Hid (Val f n i e) := arr_val (m := m) hin HQ.out hs (by
        rcases har with ⟨a1, a2, _, a4⟩ | h
        · exact .inl ⟨a1, a2, a4⟩
        · exact .inr h)
      clear hs har HQ
      go_wp2_with fail
      go_ret2
      exact ⟨.inl ⟨e, HV.out, rfl⟩, rfl⟩
    · go_wp2_with fail
      go_ret2
      exact ⟨.inr rfl, rfl⟩
  have h91' : (f i == 91) = false := by simp [h91]
  by_cases h123 : f i = 123
  · have h123' : (f i == 123) = true := by simp [h123]
    have HQ : Hid (f i = 123) := h123
    clear h34 h91 h123
    go_enter Try.func19, Try.ntmps19
    go_wp2_with fail
    refine (po_any g n cap i f _ hn hin HQ.out HC.out HPV.out).mono ?_
    rintro en w1 ⟨hpo, rfl⟩
    rcases hpo with ⟨e, hd, rfl⟩ | rfl
    · have HV : Hid (Val f n i e) := .inr (.inl ⟨.inr HQ.out, hd⟩)
      clear hd HQ
      go_wp2_with fail
      go_ret2
      exact ⟨.inl ⟨e, HV.out, rfl⟩, rfl⟩
    · go_wp2_with fail
      go_ret2
      exact ⟨.inr rfl, rfl⟩
  have h123' : (f i == 123) = false := by simp [h123]
  have HV : Hid (∀ e, i < e → e ≤ n → (∀ k, i ≤ k → k < e → isSc (f k) = true) → Val f n i e) := fun e a b c => .inr (.inr ⟨h34, h91, h123, a, b, c⟩)
  have hni : ¬ n ≤ i := by omega
  have hng : ¬ (i : Int) < 0 := by omega
  clear h34 h91 h123
  go_enter Try.func19, Try.ntmps19
  go_wp2_with fail
  go_loop [10] (fun x => ∃ j : Nat, i ≤ j ∧ j ≤ n ∧ x = .int .i64 j ∧ Hid (∀ k, i ≤ k → k < j → isSc (f k) = true)) (fun x => n - (intOf x).toNat)
  case atStart => exact ⟨i, Nat.le_refl _, by omega, rfl, fun k h1 h2 => absurd h1 (by omega)⟩
  case round =>
    clear hcell h34' h91' h123'
    obtain ⟨j, hj1, hj2, rfl, HJ⟩ := hrel
    have stop : i < j → Val f n i j := fun h => HV.out j h hj2 HJ.out
    have HST : Hid _ := stop
    clear stop
    by_cases hjn : j < n
    · have hcell := HC.out j hjn
      by_cases hsc : isSc (f j) = true
      · have HJ' : Hid (∀ k, i ≤ k → k < j + 1 → isSc (f k) = true) := by
          intro k h1 h2
          by_cases e : k = j
          · rw [e]; exact hsc
          · exact HJ.out k h1 (by omega)
        clear HJ
        go_wp2_with (go_at_call 30; refine (isSc_any _ _).mono ?_; rintro en w' ⟨rfl, rfl⟩)
        go_round
        case rel => exact ⟨j + 1, by omega, hjn, by go_num, HJ'⟩
        case measure => simp [intOf]; omega
      · have hsc' : isSc (f j) = false := by simpa using hsc
        clear HJ hsc
        by_cases hji : j = i
        · subst hji
          clear HST
          go_wp2_with (go_at_call 30; refine (isSc_any _ _).mono ?_; rintro en w' ⟨rfl, rfl⟩)
          go_ret2
          exact ⟨.inr rfl, rfl⟩
        · have hlt : i < j := by omega
          have HVV : Hid (Val f n i j) := HST.out hlt
          clear HST
          go_wp2_with (go_at_call 30; refine (isSc_any _ _).mono ?_; rintro en w' ⟨rfl, rfl⟩)
          go_ret2
          exact ⟨.inl ⟨j, HVV.out, rfl⟩, rfl⟩
    · have hlt : i < j := by omega
      have hji : ¬ j = i := by omega
      have HVV : Hid (Val f n i j) := HST.out hlt
      clear HST HJ
      go_wp2_with (go_at_call 30; refine (isSc_any _ _).mono ?_; rintro en w' ⟨rfl, rfl⟩)
      go_ret2
      exact ⟨.inl ⟨j, HVV.out, rfl⟩, rfl⟩

theorem pv_any (g n cap : Nat) (f : Nat → Int) (w : World) (hn : n ≤ 2305843009213693952) (hc : ∀ k, k < n → w.cell? ⟨g, k, none⟩ = some (.int .u8 (f k))) :
    ∀ (m i : Nat), n - i ≤ m → i ≤ n → Calls Try.prog 19 #[.slice (some ⟨g, 0, none⟩) n cap, .int .i64 i] w fun en w' => PV f n i en ∧ w' = w := by
  intro m
  induction m with
  | zero => intro i h1 h2; exact pv_step g n cap i f w hn h2 hc (fun j a b => absurd a (by omega))
  | succ m ih => intro i h1 h2; exact pv_step g n cap i f w hn h2 hc (fun j a b => ih j (by omega) b)

theorem pv_all (g n cap i : Nat) (f : Nat → Int) (w : World) (hn : n ≤ 2305843009213693952) (hc : ∀ k, k < n → w.cell? ⟨g, k, none⟩ = some (.int .u8 (f k))) (hi : i ≤ n) :
    Calls Try.prog 19 #[.slice (some ⟨g, 0, none⟩) n cap, .int .i64 i] w fun en w' => PV f n i en ∧ w' = w :=
  pv_any g n cap f w hn hc _ i (Nat.le_refl _) hi

theorem pa_all (g n cap i : Nat) (f : Nat → Int) (w : World) (hn : n ≤ 2305843009213693952) (hc : ∀ k, k < n → w.cell? ⟨g, k, none⟩ = some (.int .u8 (f k))) (hi : i < n) :
    Calls Try.prog 21 #[.slice (some ⟨g, 0, none⟩) n cap, .int .i64 i] w fun en w' => PA f n i en ∧ w' = w :=
  pa_any g n cap i f w hn hi hc (fun j _ h => pv_all g n cap j f w hn hc h)

end Go.Proofs.Qxb6000571a.Parse
