/-
  Contracts: tokB1ParseString (28), tokB1ParseArray (21), tokB1ParseObject (29), tokB1ParseValue (19): where they answer 'ok' the grammar's words of Plain hold.
-/
import Derived.Test.Qxb6000571aVal
namespace Go.Proofs.Qxb6000571a.Parse
set_option linter.unusedVariables false
open Go.RowKit
open Go.Proofs.Qxb6000571a.Plain Go.Proofs.Qxb6000571a.Str Go.Proofs.Qxb6000571a.Bytes Go.Proofs.Qxb6000571a.Skp Go.Proofs.Qxb6000571a.Vl

theorem skipWS_at (g n cap i : Nat) (x : Int) (f : Nat → Int) (w : World) (hx : x = (i : Int)) (hn : n ≤ 4611686018427387904) (hi : i ≤ 4611686018427387905) (hc : ∀ k, k < n → w.cell? ⟨g, k, none⟩ = some (.int .u8 (f k))) :
    Calls Try.prog 31 #[.slice (some ⟨g, 0, none⟩) n cap, .int .i64 x] w fun en w' => ∃ j : Nat, Skip f n i j ∧ en = .returned (.int .i64 j) ∧ w' = w := by
  subst hx
  exact skipWS_any g n cap i f w hn hi hc

/-- What ParseString answers. -/
def PS (f : Nat → Int) (n i : Nat) (en : Ending) : Prop :=
  (∃ e : Nat, SE f n (i + 1) e ∧ en = .returned (.tuple #[.int .i64 e, .bool true])) ∨ en = .returned (.tuple #[.int .i64 0, .bool false])

theorem ret2 {a b : Int} {c : Bool} (h : a = b) : Ending.returned (.tuple #[.int .i64 a, .bool c]) = .returned (.tuple #[.int .i64 b, .bool c]) := by rw [h]
theorem ret3 {a b a' b' : Int} {c : Bool} (h : a = b) (h' : a' = b') : Ending.returned (.tuple #[.int .i64 a, .int .i64 a', .bool c]) = .returned (.tuple #[.int .i64 b, .int .i64 b', .bool c]) := by rw [h, h']

set_option maxHeartbeats 400000 in
theorem ps_any (g n cap i : Nat) (f : Nat → Int) (w : World) (hn : n ≤ 2305843009213693952) (hi : i < n) (hc : ∀ k, k < n → w.cell? ⟨g, k, none⟩ = some (.int .u8 (f k))) :
    Calls Try.prog 28 #[.slice (some ⟨g, 0, none⟩) n cap, .int .i64 i] w fun en w' => PS f n i en ∧ w' = w := by
  have HC : Hid (∀ k, k < n → w.cell? ⟨g, k, none⟩ = some (.int .u8 (f k))) := hc
  clear hc
  go_enter Try.func28, Try.ntmps28
  go_wp2_with fail
  go_loop [6] (fun x => ∃ j : Nat, i + 1 ≤ j ∧ j ≤ n + 1 ∧ x = .int .i64 j ∧ Hid (∀ e, SE f n j e → SE f n (i + 1) e)) (fun x => n + 1 - (intOf x).toNat)
  case atStart => exact ⟨i + 1, Nat.le_refl _, by omega, by go_num, fun e h => h⟩
  case round =>
    obtain ⟨j, hj1, hj2, rfl, H⟩ := hrel
    by_cases hj : j < n
    · have hcell := HC.out j hj
      by_cases hq : f j = 34
      · have HS : Hid (SE f n (i + 1) (j + 1)) := H.out _ (SE.quote hj hq)
        have hq' : (f j == 34) = true := by simp [hq]
        clear hq H
        go_wp2_with fail
        go_ret2
        exact ⟨.inl ⟨j + 1, HS.out, ret2 (by omega)⟩, rfl⟩
      · have hq' : (f j == 34) = false := by simp [hq]
        by_cases hb : f j = 92
        · have H' : Hid (∀ e, SE f n (j + 2) e → SE f n (i + 1) e) := fun e h => H.out e (SE.esc hj hb h)
          have hb' : (f j == 92) = true := by simp [hb]
          clear hq hb H
          go_wp2_with fail
          go_round
          case rel => exact ⟨j + 2, by omega, by omega, by go_num, H'⟩
          case measure => simp [intOf]; omega
        · have H' : Hid (∀ e, SE f n (j + 1) e → SE f n (i + 1) e) := fun e h => H.out e (SE.one hj hq hb h)
          have hb' : (f j == 92) = false := by simp [hb]
          clear hq hb H
          go_wp2_with fail
          go_round
          case rel => exact ⟨j + 1, by omega, by omega, by go_num, H'⟩
          case measure => simp [intOf]; omega
    · clear H
      go_wp2_with fail
      go_ret2
      exact ⟨.inr rfl, rfl⟩

/-! ### Arrays, objects, values -/
def PV (f : Nat → Int) (n i : Nat) (en : Ending) : Prop :=
  (∃ e : Nat, Val f n i e ∧ en = .returned (.tuple #[.int .i64 e, .bool true])) ∨ en = .returned (.tuple #[.int .i64 0, .bool false])

/-- An array from i: white space, then the close, or m elements. -/
def Arr (f : Nat → Int) (n i m e : Nat) : Prop := ∃ j, Skip f n (i + 1) j ∧ ((j < n ∧ f j = 93 ∧ m = 0 ∧ e = j + 1) ∨ El f n m j e)

def PA (f : Nat → Int) (n i : Nat) (en : Ending) : Prop :=
  (∃ e m : Nat, Arr f n i m e ∧ en = .returned (.tuple #[.int .i64 e, .int .i64 m, .bool true])) ∨ en = .returned (.tuple #[.int .i64 0, .int .i64 0, .bool false])

def PO (f : Nat → Int) (n i : Nat) (en : Ending) : Prop :=
  (∃ e : Nat, DE f n i 0 e ∧ en = .returned (.tuple #[.int .i64 e, .bool true])) ∨ en = .returned (.tuple #[.int .i64 0, .bool false])

theorem Skip.bd {f : Nat → Int} {n i j : Nat} (h : Skip f n i j) (hi : i ≤ n) : i ≤ j ∧ j ≤ n := by
  have := h.1
  have := h.2.1
  omega

set_option maxHeartbeats 800000 in
theorem pa_any (g n cap i : Nat) (f : Nat → Int) (w : World) (hn : n ≤ 2305843009213693952) (hi : i < n) (hc : ∀ k, k < n → w.cell? ⟨g, k, none⟩ = some (.int .u8 (f k)))
    (hpv : ∀ j, i < j → j ≤ n → Calls Try.prog 19 #[.slice (some ⟨g, 0, none⟩) n cap, .int .i64 j] w fun en w' => PV f n j en ∧ w' = w) :
    Calls Try.prog 21 #[.slice (some ⟨g, 0, none⟩) n cap, .int .i64 i] w fun en w' => PA f n i en ∧ w' = w := by
  have HC : Hid (∀ k, k < n → w.cell? ⟨g, k, none⟩ = some (.int .u8 (f k))) := hc
  have HPV : Hid (∀ j, i < j → j ≤ n → Calls Try.prog 19 #[.slice (some ⟨g, 0, none⟩) n cap, .int .i64 j] w fun en w' => PV f n j en ∧ w' = w) := hpv
  clear hc hpv
  go_enter Try.func21, Try.ntmps21
  go_wp2_with fail
  refine (skipWS_at g n cap (i + 1) _ f _ (by omega) (by omega) (by omega) HC.out).mono ?_
  rintro en w' ⟨j0, hs0, rfl, rfl⟩
  have hb0 := Skip.bd hs0 (by omega)
  have HS0 : Hid (Skip f n (i + 1) j0) := hs0
  clear hs0
  by_cases hend : j0 < n ∧ f j0 = 93
  · have hcell := HC.out j0 hend.1
    have hj0 := hend.1
    have h93 : (f j0 == 93) = true := by simp [hend.2]
    have HA : Hid (Arr f n i 0 (j0 + 1)) := ⟨j0, HS0.out, .inl ⟨hend.1, hend.2, rfl, rfl⟩⟩
    clear hend
    go_wp2_with fail
    go_ret3
    exact ⟨.inl ⟨j0 + 1, 0, HA.out, ret3 (by omega) rfl⟩, rfl⟩
  · have two : (n ≤ j0) ∨ (j0 < n ∧ (f j0 == 93) = false) := by
      by_cases h : j0 < n
      · right; exact ⟨h, by simp; intro h'; exact hend ⟨h, h'⟩⟩
      · left; omega
    clear hend
    have fin : ∀ (e m : Nat), El f n m j0 e → Arr f n i m e := fun e m h => ⟨j0, HS0.out, .inr h⟩
    have HF : Hid _ := fin
    clear fin
    rcases two with h0 | ⟨h0, h93⟩
    · have h0' : ¬ j0 < n := by omega
      go_wp2_with fail
      go_loop [7, 8] (fun x y => ∃ j c : Nat, i < j ∧ j ≤ n ∧ c ≤ j ∧ x = .int .i64 j ∧ y = .int .i64 c ∧ Hid (∀ m e, El f n m j e → El f n (m + c) j0 e)) (fun x _ => n - (intOf x).toNat)
      case atStart => exact ⟨j0, 0, by omega, by omega, Nat.zero_le _, rfl, rfl, fun m e h => h⟩
      case round =>
        clear h0 h0'
        obtain ⟨j, c, hj1, hj2, hcj, rfl, rfl, HE⟩ := hrel
        go_wp2_with fail
        refine (HPV.out j hj1 hj2).mono ?_
        rintro en w1 ⟨hpv, rfl⟩
        rcases hpv with ⟨e, hv, rfl⟩ | rfl
        rotate_left
        · go_wp2_with fail
          go_ret3
          exact ⟨.inr rfl, rfl⟩
        have hvl := hv.lt
        have HV : Hid (Val f n j e) := hv
        clear hv
        go_wp2_with fail
        refine (skipWS_at g n cap e _ f _ rfl (by omega) (by omega) HC.out).mono ?_
        rintro en w2 ⟨j2, hs2, rfl, rfl⟩
        have hb2 := Skip.bd hs2 (by omega)
        have HS2 : Hid (Skip f n e j2) := hs2
        clear hs2
        by_cases hj2n : j2 < n
        rotate_left
        · go_wp2_with fail
          go_ret3
          exact ⟨.inr rfl, rfl⟩
        have hcell := HC.out j2 hj2n
        by_cases h44 : f j2 = 44
        · have h44' : (f j2 == 44) = true := by simp [h44]
          have HE2 : Hid (∀ j3, Skip f n (j2 + 1) j3 → ∀ m e', El f n m j3 e' → El f n (m + (c + 1)) j0 e') := by
            intro j3 hs3 m e' hel
            have := HE.out (m + 1) e' ⟨e, j2, HV.out, HS2.out, hj2n, .inl ⟨h44, j3, hs3, hel⟩⟩
            rwa [show m + 1 + c = m + (c + 1) by omega] at this
          clear h44 HE HV HS2
          go_wp2_with fail
          refine (skipWS_at g n cap (j2 + 1) _ f _ (by omega) (by omega) (by omega) HC.out).mono ?_
          rintro en w3 ⟨j3, hs3, rfl, rfl⟩
          have hb3 := Skip.bd hs3 (by omega)
          have HE3 : Hid (∀ m e', El f n m j3 e' → El f n (m + (c + 1)) j0 e') := HE2.out j3 hs3
          clear hs3 HE2
          go_wp2_with fail
          go_round
          case rel => exact ⟨j3, c + 1, by omega, by omega, by omega, rfl, by go_num, HE3⟩
          case measure => simp [intOf]; omega
        · have h44' : (f j2 == 44) = false := by simp [h44]
          by_cases h93b : f j2 = 93
          · have h93' : (f j2 == 93) = true := by simp [h93b]
            have HA : Hid (Arr f n i (c + 1) (j2 + 1)) := by
              refine HF.out (j2 + 1) (c + 1) ?_
              have := HE.out 1 (j2 + 1) ⟨e, j2, HV.out, HS2.out, hj2n, .inr ⟨h93b, rfl, rfl⟩⟩
              rwa [show 1 + c = c + 1 by omega] at this
            clear h93b h44 HE HV HS2
            go_wp2_with fail
            go_ret3
            exact ⟨.inl ⟨j2 + 1, c + 1, HA.out, ret3 (by omega) (by omega)⟩, rfl⟩
          · have h93' : (f j2 == 93) = false := by simp [h93b]
            clear h93b h44 HE HV HS2
            go_wp2_with fail
            go_ret3
            exact ⟨.inr rfl, rfl⟩
    · have hcell0 := HC.out j0 h0
      go_wp2_with fail
      go_loop [7, 8] (fun x y => ∃ j c : Nat, i < j ∧ j ≤ n ∧ c ≤ j ∧ x = .int .i64 j ∧ y = .int .i64 c ∧ Hid (∀ m e, El f n m j e → El f n (m + c) j0 e)) (fun x _ => n - (intOf x).toNat)
      case atStart => exact ⟨j0, 0, by omega, by omega, Nat.zero_le _, rfl, rfl, fun m e h => h⟩
      case round =>
        clear hcell0
        obtain ⟨j, c, hj1, hj2, hcj, rfl, rfl, HE⟩ := hrel
        go_wp2_with fail
        refine (HPV.out j hj1 hj2).mono ?_
        rintro en w1 ⟨hpv, rfl⟩
        rcases hpv with ⟨e, hv, rfl⟩ | rfl
        rotate_left
        · go_wp2_with fail
          go_ret3
          exact ⟨.inr rfl, rfl⟩
        have hvl := hv.lt
        have HV : Hid (Val f n j e) := hv
        clear hv
        go_wp2_with fail
        refine (skipWS_at g n cap e _ f _ rfl (by omega) (by omega) HC.out).mono ?_
        rintro en w2 ⟨j2, hs2, rfl, rfl⟩
        have hb2 := Skip.bd hs2 (by omega)
        have HS2 : Hid (Skip f n e j2) := hs2
        clear hs2
        by_cases hj2n : j2 < n
        rotate_left
        · go_wp2_with fail
          go_ret3
          exact ⟨.inr rfl, rfl⟩
        have hcell := HC.out j2 hj2n
        by_cases h44 : f j2 = 44
        · have h44' : (f j2 == 44) = true := by simp [h44]
          have HE2 : Hid (∀ j3, Skip f n (j2 + 1) j3 → ∀ m e', El f n m j3 e' → El f n (m + (c + 1)) j0 e') := by
            intro j3 hs3 m e' hel
            have := HE.out (m + 1) e' ⟨e, j2, HV.out, HS2.out, hj2n, .inl ⟨h44, j3, hs3, hel⟩⟩
            rwa [show m + 1 + c = m + (c + 1) by omega] at this
          clear h44 HE HV HS2
          go_wp2_with fail
          refine (skipWS_at g n cap (j2 + 1) _ f _ (by omega) (by omega) (by omega) HC.out).mono ?_
          rintro en w3 ⟨j3, hs3, rfl, rfl⟩
          have hb3 := Skip.bd hs3 (by omega)
          have HE3 : Hid (∀ m e', El f n m j3 e' → El f n (m + (c + 1)) j0 e') := HE2.out j3 hs3
          clear hs3 HE2
          go_wp2_with fail
          go_round
          case rel => exact ⟨j3, c + 1, by omega, by omega, by omega, rfl, by go_num, HE3⟩
          case measure => simp [intOf]; omega
        · have h44' : (f j2 == 44) = false := by simp [h44]
          by_cases h93b : f j2 = 93
          · have h93' : (f j2 == 93) = true := by simp [h93b]
            have HA : Hid (Arr f n i (c + 1) (j2 + 1)) := by
              refine HF.out (j2 + 1) (c + 1) ?_
              have := HE.out 1 (j2 + 1) ⟨e, j2, HV.out, HS2.out, hj2n, .inr ⟨h93b, rfl, rfl⟩⟩
              rwa [show 1 + c = c + 1 by omega] at this
            clear h93b h44 HE HV HS2
            go_wp2_with fail
            go_ret3
            exact ⟨.inl ⟨j2 + 1, c + 1, HA.out, ret3 (by omega) (by omega)⟩, rfl⟩
          · have h93' : (f j2 == 93) = false := by simp [h93b]
            clear h93b h44 HE HV HS2
            go_wp2_with fail
            go_ret3
            exact ⟨.inr rfl, rfl⟩

end Go.Proofs.Qxb6000571a.Parse
