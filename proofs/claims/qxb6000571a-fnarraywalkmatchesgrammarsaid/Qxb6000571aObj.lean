/-
  The contract of tokB1ParseObject (29).
-/
import Derived.Test.Qxb6000571aParse
namespace Go.Proofs.Qxb6000571a.Parse
set_option linter.unusedVariables false
open Go.RowKit
open Go.Proofs.Qxb6000571a.Plain Go.Proofs.Qxb6000571a.Str Go.Proofs.Qxb6000571a.Bytes Go.Proofs.Qxb6000571a.Skp Go.Proofs.Qxb6000571a.Vl

set_option maxRecDepth 100000 in
set_option maxHeartbeats 1600000 in
theorem po_any (g n cap i : Nat) (f : Nat → Int) (w : World) (hn : n ≤ 2305843009213693952) (hi : i < n) (hfi : f i = 123) (hc : ∀ k, k < n → w.cell? ⟨g, k, none⟩ = some (.int .u8 (f k)))
    (hpv : ∀ j, i < j → j ≤ n → Calls Try.prog 19 #[.slice (some ⟨g, 0, none⟩) n cap, .int .i64 j] w fun en w' => PV f n j en ∧ w' = w) :
    Calls Try.prog 29 #[.slice (some ⟨g, 0, none⟩) n cap, .int .i64 i] w fun en w' => PO f n i en ∧ w' = w := by
  have HC : Hid (∀ k, k < n → w.cell? ⟨g, k, none⟩ = some (.int .u8 (f k))) := hc
  have HPV : Hid (∀ j, i < j → j ≤ n → Calls Try.prog 19 #[.slice (some ⟨g, 0, none⟩) n cap, .int .i64 j] w fun en w' => PV f n j en ∧ w' = w) := hpv
  have hop : Rc (DStep f n) (i, 0) (i + 1, 1) := Rc.head (t := (i + 1, 1)) ⟨hi, .inr (.inl ⟨.inl hfi, rfl, rfl⟩)⟩ (Rc.refl _ _)
  have HOP : Hid (Rc (DStep f n) (i, 0) (i + 1, 1)) := hop
  clear hc hpv hop hfi
  go_enter Try.func29, Try.ntmps29
  go_wp2_with fail
  refine (skipWS_at g n cap (i + 1) _ f _ (by omega) (by omega) (by omega) HC.out).mono ?_
  rintro en w' ⟨j0, hs0, rfl, rfl⟩
  have hb0 := Skip.bd hs0 (by omega)
  have HR0 : Hid (Rc (DStep f n) (i, 0) (j0, 1)) := HOP.out.trans (Rc.skip hs0 (by omega))
  clear hs0 HOP
  by_cases hend : j0 < n ∧ f j0 = 125
  · have hcell := HC.out j0 hend.1
    have hj0 := hend.1
    have h125 : (f j0 == 125) = true := by simp [hend.2]
    have HA : Hid (DE f n i 0 (j0 + 1)) := ⟨j0, HR0.out, hend.1, .inl hend.2, rfl⟩
    clear hend
    go_wp2_with fail
    go_ret2
    exact ⟨.inl ⟨j0 + 1, HA.out, ret2 (by omega)⟩, rfl⟩
  · have two : (¬ j0 < n) ∨ (j0 < n ∧ (f j0 == 125) = false) := by
      by_cases h : j0 < n
      · right; exact ⟨h, by simp; intro h'; exact hend ⟨h, h'⟩⟩
      · left; exact h
    clear hend
    rcases two with h0 | ⟨h0, h125⟩
    · go_wp2_with fail
      go_loop [6] (fun x => ∃ j : Nat, i < j ∧ j ≤ n ∧ x = .int .i64 j ∧ Hid (Rc (DStep f n) (i, 0) (j, 1))) (fun x => n - (intOf x).toNat)
      case atStart => exact ⟨j0, by omega, by omega, rfl, HR0⟩
      case round =>
        clear h0 HR0
        obtain ⟨j, hj1, hj2, rfl, HR⟩ := hrel
        by_cases hjn : j < n
        rotate_left
        · go_wp2_with fail
          go_ret2
          exact ⟨.inr rfl, rfl⟩
        have hcell := HC.out j hjn
        by_cases h34 : f j = 34
        rotate_left
        · have h34' : (f j != 34) = true := by simp [h34]
          clear h34
          go_wp2_with fail
          go_ret2
          exact ⟨.inr rfl, rfl⟩
        have h34' : (f j != 34) = false := by simp [h34]
        have HQ : Hid (f j = 34) := h34
        clear h34
        go_wp2_with fail
        refine (ps_any g n cap j f _ hn hjn HC.out).mono ?_
        rintro en w1 ⟨hps, rfl⟩
        rcases hps with ⟨e, hs, rfl⟩ | rfl
        rotate_left
        · go_wp2_with fail
          go_ret2
          exact ⟨.inr rfl, rfl⟩
        have hel := hs.lt
        have HR1 : Hid (Rc (DStep f n) (i, 0) (e, 1)) := HR.out.tail ⟨hjn, .inl ⟨HQ.out, hs, rfl⟩⟩
        clear hs HR HQ hcell h34'
        go_wp2_with fail
        refine (skipWS_at g n cap e _ f _ rfl (by omega) (by omega) HC.out).mono ?_
        rintro en w2 ⟨j2, hs2, rfl, rfl⟩
        have hb2 := Skip.bd hs2 (by omega)
        have HR2 : Hid (Rc (DStep f n) (i, 0) (j2, 1)) := HR1.out.trans (Rc.skip hs2 (by omega))
        clear hs2 HR1
        by_cases hj2n : j2 < n
        rotate_left
        · go_wp2_with fail
          go_ret2
          exact ⟨.inr rfl, rfl⟩
        have hcell := HC.out j2 hj2n
        by_cases h58 : f j2 = 58
        rotate_left
        · have h58' : (f j2 != 58) = true := by simp [h58]
          clear h58
          go_wp2_with fail
          go_ret2
          exact ⟨.inr rfl, rfl⟩
        have h58' : (f j2 != 58) = false := by simp [h58]
        have HR2b : Hid (Rc (DStep f n) (i, 0) (j2 + 1, 1)) := HR2.out.trans (Rc.plain hj2n (by omega))
        clear h58 HR2
        go_wp2_with fail
        refine (skipWS_at g n cap (j2 + 1) _ f _ (by omega) (by omega) (by omega) HC.out).mono ?_
        rintro en w3 ⟨j3, hs3, rfl, rfl⟩
        have hb3 := Skip.bd hs3 (by omega)
        have HR3 : Hid (Rc (DStep f n) (i, 0) (j3, 1)) := HR2b.out.trans (Rc.skip hs3 (by omega))
        clear hs3 HR2b hcell h58'
        go_wp2_with fail
        refine (HPV.out j3 (by omega) (by omega)).mono ?_
        rintro en w4 ⟨hpv, rfl⟩
        rcases hpv with ⟨e4, hv, rfl⟩ | rfl
        rotate_left
        · go_wp2_with fail
          go_ret2
          exact ⟨.inr rfl, rfl⟩
        have hvl := hv.lt
        have HR4 : Hid (Rc (DStep f n) (i, 0) (e4, 1)) := HR3.out.trans (hv.over (Nat.le_refl _))
        clear hv HR3
        go_wp2_with fail
        refine (skipWS_at g n cap e4 _ f _ rfl (by omega) (by omega) HC.out).mono ?_
        rintro en w5 ⟨j5, hs5, rfl, rfl⟩
        have hb5 := Skip.bd hs5 (by omega)
        have HR5 : Hid (Rc (DStep f n) (i, 0) (j5, 1)) := HR4.out.trans (Rc.skip hs5 (by omega))
        clear hs5 HR4
        by_cases hj5n : j5 < n
        rotate_left
        · go_wp2_with fail
          go_ret2
          exact ⟨.inr rfl, rfl⟩
        have hcell := HC.out j5 hj5n
        by_cases h44 : f j5 = 44
        · have h44' : (f j5 == 44) = true := by simp [h44]
          have HR6 : Hid (Rc (DStep f n) (i, 0) (j5 + 1, 1)) := HR5.out.trans (Rc.plain hj5n (by omega))
          clear h44 HR5
          go_wp2_with fail
          refine (skipWS_at g n cap (j5 + 1) _ f _ (by omega) (by omega) (by omega) HC.out).mono ?_
          rintro en w6 ⟨j6, hs6, rfl, rfl⟩
          have hb6 := Skip.bd hs6 (by omega)
          have HR7 : Hid (Rc (DStep f n) (i, 0) (j6, 1)) := HR6.out.trans (Rc.skip hs6 (by omega))
          clear hs6 HR6
          go_wp2_with fail
          go_round
          case rel => exact ⟨j6, by omega, by omega, rfl, HR7⟩
          case measure => simp [intOf]; omega
        · have h44' : (f j5 == 44) = false := by simp [h44]
          by_cases h125b : f j5 = 125
          · have h125' : (f j5 == 125) = true := by simp [h125b]
            have HA : Hid (DE f n i 0 (j5 + 1)) := ⟨j5, HR5.out, hj5n, .inl h125b, rfl⟩
            clear h125b h44 HR5
            go_wp2_with fail
            go_ret2
            exact ⟨.inl ⟨j5 + 1, HA.out, ret2 (by omega)⟩, rfl⟩
          · have h125' : (f j5 == 125) = false := by simp [h125b]
            clear h125b h44 HR5
            go_wp2_with fail
            go_ret2
            exact ⟨.inr rfl, rfl⟩
    · have hcell0 := HC.out j0 h0
      go_wp2_with fail
      go_loop [6] (fun x => ∃ j : Nat, i < j ∧ j ≤ n ∧ x = .int .i64 j ∧ Hid (Rc (DStep f n) (i, 0) (j, 1))) (fun x => n - (intOf x).toNat)
      case atStart => exact ⟨j0, by omega, by omega, rfl, HR0⟩
      case round =>
        clear hcell0 HR0
        obtain ⟨j, hj1, hj2, rfl, HR⟩ := hrel
        by_cases hjn : j < n
        rotate_left
        · go_wp2_with fail
          go_ret2
          exact ⟨.inr rfl, rfl⟩
        have hcell := HC.out j hjn
        by_cases h34 : f j = 34
        rotate_left
        · have h34' : (f j != 34) = true := by simp [h34]
          clear h34
          go_wp2_with fail
          go_ret2
          exact ⟨.inr rfl, rfl⟩
        have h34' : (f j != 34) = false := by simp [h34]
        have HQ : Hid (f j = 34) := h34
        clear h34
        go_wp2_with fail
        refine (ps_any g n cap j f _ hn hjn HC.out).mono ?_
        rintro en w1 ⟨hps, rfl⟩
        rcases hps with ⟨e, hs, rfl⟩ | rfl
        rotate_left
        · go_wp2_with fail
          go_ret2
          exact ⟨.inr rfl, rfl⟩
        have hel := hs.lt
        have HR1 : Hid (Rc (DStep f n) (i, 0) (e, 1)) := HR.out.tail ⟨hjn, .inl ⟨HQ.out, hs, rfl⟩⟩
        clear hs HR HQ hcell h34'
        go_wp2_with fail
        refine (skipWS_at g n cap e _ f _ rfl (by omega) (by omega) HC.out).mono ?_
        rintro en w2 ⟨j2, hs2, rfl, rfl⟩
        have hb2 := Skip.bd hs2 (by omega)
        have HR2 : Hid (Rc (DStep f n) (i, 0) (j2, 1)) := HR1.out.trans (Rc.skip hs2 (by omega))
        clear hs2 HR1
        by_cases hj2n : j2 < n
        rotate_left
        · go_wp2_with fail
          go_ret2
          exact ⟨.inr rfl, rfl⟩
        have hcell := HC.out j2 hj2n
        by_cases h58 : f j2 = 58
        rotate_left
        · have h58' : (f j2 != 58) = true := by simp [h58]
          clear h58
          go_wp2_with fail
          go_ret2
          exact ⟨.inr rfl, rfl⟩
        have h58' : (f j2 != 58) = false := by simp [h58]
        have HR2b : Hid (Rc (DStep f n) (i, 0) (j2 + 1, 1)) := HR2.out.trans (Rc.plain hj2n (by omega))
        clear h58 HR2
        go_wp2_with fail
        refine (skipWS_at g n cap (j2 + 1) _ f _ (by omega) (by omega) (by omega) HC.out).mono ?_
        rintro en w3 ⟨j3, hs3, rfl, rfl⟩
        have hb3 := Skip.bd hs3 (by omega)
        have HR3 : Hid (Rc (DStep f n) (i, 0) (j3, 1)) := HR2b.out.trans (Rc.skip hs3 (by omega))
        clear hs3 HR2b hcell h58'
        go_wp2_with fail
        refine (HPV.out j3 (by omega) (by omega)).mono ?_
        rintro en w4 ⟨hpv, rfl⟩
        rcases hpv with ⟨e4, hv, rfl⟩ | rfl
        rotate_left
        · go_wp2_with fail
          go_ret2
          exact ⟨.inr rfl, rfl⟩
        have hvl := hv.lt
        have HR4 : Hid (Rc (DStep f n) (i, 0) (e4, 1)) := HR3.out.trans (hv.over (Nat.le_refl _))
        clear hv HR3
        go_wp2_with fail
        refine (skipWS_at g n cap e4 _ f _ rfl (by omega) (by omega) HC.out).mono ?_
        rintro en w5 ⟨j5, hs5, rfl, rfl⟩
        have hb5 := Skip.bd hs5 (by omega)
        have HR5 : Hid (Rc (DStep f n) (i, 0) (j5, 1)) := HR4.out.trans (Rc.skip hs5 (by omega))
        clear hs5 HR4
        by_cases hj5n : j5 < n
        rotate_left
        · go_wp2_with fail
          go_ret2
          exact ⟨.inr rfl, rfl⟩
        have hcell := HC.out j5 hj5n
        by_cases h44 : f j5 = 44
        · have h44' : (f j5 == 44) = true := by simp [h44]
          have HR6 : Hid (Rc (DStep f n) (i, 0) (j5 + 1, 1)) := HR5.out.trans (Rc.plain hj5n (by omega))
          clear h44 HR5
          go_wp2_with fail
          refine (skipWS_at g n cap (j5 + 1) _ f _ (by omega) (by omega) (by omega) HC.out).mono ?_
          rintro en w6 ⟨j6, hs6, rfl, rfl⟩
          have hb6 := Skip.bd hs6 (by omega)
          have HR7 : Hid (Rc (DStep f n) (i, 0) (j6, 1)) := HR6.out.trans (Rc.skip hs6 (by omega))
          clear hs6 HR6
          go_wp2_with fail
          go_round
          case rel => exact ⟨j6, by omega, by omega, rfl, HR7⟩
          case measure => simp [intOf]; omega
        · have h44' : (f j5 == 44) = false := by simp [h44]
          by_cases h125b : f j5 = 125
          · have h125' : (f j5 == 125) = true := by simp [h125b]
            have HA : Hid (DE f n i 0 (j5 + 1)) := ⟨j5, HR5.out, hj5n, .inl h125b, rfl⟩
            clear h125b h44 HR5
            go_wp2_with fail
            go_ret2
            exact ⟨.inl ⟨j5 + 1, HA.out, ret2 (by omega)⟩, rfl⟩
          · have h125' : (f j5 == 125) = false := by simp [h125b]
            clear h125b h44 HR5
            go_wp2_with fail
            go_ret2
            exact ⟨.inr rfl, rfl⟩

end Go.Proofs.Qxb6000571a.Parse
