/-
  The walk of FnSourcesOfLongestEntryPrefix (6).
-/
import Derived.Test.Qxb6601102aOf
import Derived.RegionTactic
import Derived.BigRegion
namespace Go.Proofs.Qxb6601102a.Walk
set_option linter.unusedVariables false
open Go.RowKit
open Go.WideMaps (keyOf_string_mk)
open Go.Proofs.Qxb6601102a.Sizes Go.Proofs.Qxb6601102a.Strs Go.Proofs.Qxb6601102a.Look Go.Proofs.Qxb6601102a.Mp Go.Proofs.Qxb6601102a.Off

/-- What zzPointerFits answers. -/
def fits (pt : ByteArray) : Bool := if h : 0 < pt.size then ((pt[0].toNat : Int) == 47) else true
theorem fits_yes {pt : ByteArray} (h : fits pt = true) : ∀ h : 0 < pt.size, (pt[0].toNat : Int) = 47 := by
  intro h0
  unfold fits at h
  rw [dif_pos h0] at h
  simpa using h

theorem ret_bool {a b : Bool} (h : a = b) : Ending.returned (.bool a) = .returned (.bool b) := by rw [h]

theorem fits_any (pt : ByteArray) (w : World) (hp : pt.size ≤ maxLen) : Calls Try.prog 28 #[.string pt] w fun e w' => e = .returned (.bool (fits pt)) ∧ w' = w := by
  unfold maxLen at hp
  by_cases h0 : 0 < pt.size
  · have hne := empty_no h0
    have H : Hid (((pt[0].toNat : Int) == 47) = fits pt) := by show _ = _; unfold fits; rw [dif_pos h0]
    go_enter Try.func28, Try.ntmps28
    go_wp2
    go_ret
    exact ⟨ret_bool H.out, rfl⟩
  · have hne := empty_yes (p := pt) (by omega)
    have H : Hid (true = fits pt) := by show _ = _; unfold fits; rw [dif_neg h0]
    go_enter Try.func28, Try.ntmps28
    go_wp2
    go_ret
    exact ⟨ret_bool H.out, rfl⟩

theorem run_makeMap_hint (n : Int) (w : World) : (Instr.makeMap 52 (some (.int .i64 n))).run Try.prog w = .ok (.map (some w.heap.size)) (w.alloc (.map #[] 0)) := by
  simp [Instr.makeMap, run_underlying Try.underlying52, asInt, asIntOf, Result.andThen]

/-- One store: the operation's run, and what the map then is. -/
theorem map_store {w : World} {b n k : Nat} {kf vf : Nat → ByteArray} (h : MapIs w b n kf vf k) (hn : n < maxLen) (hk : (kf k).size ≤ maxLen) (hv : (vf k).size ≤ maxLen) :
    ∃ w', (Instr.mapUpdate 52 (.map (some b)) (.string (kf k)) (.string (vf k))).run Try.prog w = .ok () w' ∧ MapIs w' b (n + 1) kf vf (k + 1) ∧ w.grownBy w' (some b) := by
  obtain ⟨D, hown, hm, hD⟩ := h
  obtain ⟨w', hrun, ho, hg⟩ := hown.update law Try.underlying52 hn (keyOf_string_mk Try.underlying9 hk) (plainElem_string Try.underlying9 hv)
  exact ⟨w', hrun, ⟨_, ho, hm.put _ _, put_is hm hD⟩, hg⟩

theorem map_drew {w : World} {b n k : Nat} {kf vf : Nat → ByteArray} (h : MapIs w b n kf vf k) : MapIs w.drew b n kf vf k := h

set_option maxRecDepth 100000 in
set_option maxHeartbeats 800000 in
theorem walk (a0 a1 : Option Addr) (n0 c0 n1 c1 : Nat) (kf vf : Nat → ByteArray) (file pt fb : ByteArray) (w : World) (hn0 : n0 ≤ maxLen) (hn1 : n1 ≤ maxLen)
    (hS0 : Sl w a0 n0 kf) (hz0 : ∀ k, k < n0 → (kf k).size ≤ maxLen) (hS1 : Sl w a1 n1 vf) (hz1 : ∀ k, k < n1 → (vf k).size ≤ maxLen) (he0 : a0 = none → n0 = 0 ∧ c0 = 0) (he1 : a1 = none → n1 = 0 ∧ c1 = 0)
    (h2 : file.size ≤ maxLen) (h3 : pt.size ≤ maxLen) (h4 : fb.size ≤ maxLen) :
    Calls Try.prog 6 #[.slice a0 n0 c0, .slice a1 n1 c1, .string file, .string pt, .string fb] w fun e w' => e = .returned (.bool true) ∧ Below w.heap.size w w' := by
  have Z := zz_any a0 a1 n0 c0 n1 c1 kf vf file pt fb w hn0 hn1 hS0 hz0 hS1 hz1 h2 h3 h4
  have HS0 : Hid (Sl w a0 n0 kf) := hS0
  have HS1 : Hid (Sl w a1 n1 vf) := hS1
  have HZ0 : Hid (∀ k, k < n0 → (kf k).size ≤ maxLen) := hz0
  have HZ1 : Hid (∀ k, k < n1 → (vf k).size ≤ maxLen) := hz1
  have HE0 : Hid (a0 = none → n0 = 0 ∧ c0 = 0) := he0
  have HE1 : Hid (a1 = none → n1 = 0 ∧ c1 = 0) := he1
  have H2 : Hid (file.size ≤ maxLen) := h2
  have H3 : Hid (pt.size ≤ maxLen) := h3
  have H4 : Hid (fb.size ≤ maxLen) := h4
  have HN0 : Hid (n0 ≤ maxLen) := hn0
  have HN1 : Hid (n1 ≤ maxLen) := hn1
  clear hS0 hS1 hz0 hz1 he0 he1
  unfold maxLen at hn0 hn1 h2 h3 h4
  go_enter Try.func6, Try.ntmps6
  go_wp2_with fail
  refine Z.mono ?_
  rintro e w' ⟨⟨b, rfl⟩, rfl⟩
  clear Z
  cases b
  · go_wp2_with fail
    go_ret
    exact ⟨rfl, Below.refl _ _⟩
  go_wp2_with fail
  refine (strs_any a0 n0 c0 kf _ HN0.out HS0.out HZ0.out).mono ?_
  rintro e w1 ⟨⟨x0, hx0, hx0', rfl⟩, rfl⟩
  go_wp2_with fail
  refine (strs_any a1 n1 c1 vf _ HN1.out HS1.out HZ1.out).mono ?_
  rintro e w2 ⟨⟨x1, hx1, hx1', rfl⟩, rfl⟩
  have hc2 := capI_bd file.size (by omega)
  have hc3 := capI_bd pt.size (by omega)
  have hc4 := capI_bd fb.size (by omega)
  have hl2 := capI_le file.size
  have hl3 := capI_le pt.size
  have HL2 : Hid _ := hl2
  have HL3 : Hid _ := hl3
  clear hl2 hl3
  go_wp2_with fail
  refine (str_any file _ H2.out).mono ?_
  rintro e w3 ⟨rfl, rfl⟩
  go_wp2_with fail
  refine (str_any pt _ H3.out).mono ?_
  rintro e w4 ⟨rfl, rfl⟩
  go_wp2_with fail
  refine (str_any fb _ H4.out).mono ?_
  rintro e w5 ⟨rfl, rfl⟩
  by_cases hsum : x0 + x1 + capI file.size + capI pt.size + capI fb.size ≤ 1048576
  rotate_left
  · go_wp2_with fail
    go_ret
    exact ⟨rfl, Below.refl _ _⟩
  have hf : file.size ≤ 1048576 := by have := HL2.out (by omega); omega
  have hp : pt.size ≤ 1048576 := by have := HL3.out (by omega); omega
  have hsum' : ¬ 1048576 < x0 + x1 + capI file.size + capI pt.size + capI fb.size := by omega
  by_cases hn : n0 ≤ 4096
  rotate_left
  · go_wp2_with fail
    go_ret
    exact ⟨rfl, Below.refl _ _⟩
  have hn' : ¬ 4096 < n0 := by omega
  by_cases hnn : n0 = n1
  rotate_left
  · have hnn' : ((n0 : Int) != (n1 : Int)) = true := by rw [bne_iff_ne]; omega
    clear hnn
    go_wp2_with fail
    go_ret
    exact ⟨rfl, Below.refl _ _⟩
  subst hnn
  go_wp2_with fail
  refine (fits_any pt _ H3.out).mono ?_
  rintro e w6 ⟨rfl, rfl⟩
  by_cases hfit : fits pt = true
  rotate_left
  · have hfit' : fits pt = false := by simpa using hfit
    go_wp2_with fail
    go_ret
    exact ⟨rfl, Below.refl _ _⟩
  have HSL : Hid (∀ h : 0 < pt.size, (pt[0].toNat : Int) = 47) := fits_yes hfit
  go_wp2_with fail
  refine (clone_any a0 n0 c0 kf _ (by omega) HS0.out HE0.out).mono ?_
  rintro e wa ⟨ak, ck, rfl, hSk, hba⟩
  have HS1a : Hid (Sl wa a1 n0 vf) := Sl.below HS1.out hba
  have HSk : Hid (Sl wa ak n0 kf) := hSk
  have HBa : Hid (Below w6.heap.size w6 wa) := hba
  clear hSk hba HS0 HS1 HE0
  go_wp2_with fail
  refine (clone_any a1 n0 c1 vf _ (by omega) HS1a.out HE1.out).mono ?_
  rintro e wb ⟨av, cv, rfl, hSv, hbb⟩
  have HSk2 : Hid (Sl wb ak n0 kf) := Sl.below HSk.out hbb
  have HSv : Hid (Sl wb av n0 vf) := hSv
  have HBb : Hid (Below w6.heap.size w6 wb) := HBa.out.trans (hbb.mono HBa.out.size)
  clear hSv hbb HS1a HSk HBa HE1
  have hmm := run_makeMap_hint
  go_wp2_with fail
  clear hmm hsum hn HN0 HN1 H2 H4 HL2 HL3 hc2 hc3 hc4 hx0 hx0' hx1 hx1' hsum' hfit
  have HM0 : Hid (MapIs (wb.alloc (.map #[] 0)) wb.heap.size 0 kf vf 0) := MapIs.made wb kf vf
  have HBm : Hid (Below wb.heap.size wb (wb.alloc (.map #[] 0))) := (Below.refl _ _).alloc (Nat.le_refl _) _
  go_loopw [12] (fun x wr => ∃ j : Nat, j ≤ n0 ∧ x = .int .i64 j ∧ Hid (MapIs wr wb.heap.size j kf vf j) ∧ Hid (Below wb.heap.size wb wr)) (fun x _ => n0 - (intOf x).toNat)
  case atStart => exact ⟨0, Nat.zero_le _, rfl, HM0, HBm⟩
  case round =>
    clear HM0 HBm
    obtain ⟨j, hj, rfl, HM, HB⟩ := hrel
    by_cases hlt : j < n0
    · obtain ⟨bk, ok, rfl, _, hck⟩ := Sl.below HSk2.out HB.out (by omega)
      obtain ⟨bv, ov, rfl, _, hcv⟩ := Sl.below HSv.out HB.out (by omega)
      have hcellk := hck j hlt
      have hcellv := hcv j hlt
      obtain ⟨wx, hrun, hmx, hgx⟩ := map_store (map_drew HM.out) (by unfold maxLen; omega) (HZ0.out j hlt) (HZ1.out j hlt)
      have HMx : Hid (MapIs wx wb.heap.size (j + 1) kf vf (j + 1)) := hmx
      have HBx : Hid (Below wb.heap.size wb wx) := HB.out.drew.grown hgx HB.out.size (by intro q hq; cases hq; exact Nat.le_refl _)
      clear hck hcv hmx hgx HM HB
      go_wp2_with fail
      go_region
      all_goals
        go_wp2_with fail
        go_roundw
        case rel => exact ⟨j + 1, hlt, by go_num, HMx, HBx⟩
        case measure => simp [intOf]; omega
    · obtain rfl : j = n0 := by omega
      have HSk3 : Hid (Sl wr ak j kf) := Sl.below HSk2.out HB.out
      have HSv3 : Hid (Sl wr av j vf) := Sl.below HSv.out HB.out
      have HB3 : Hid (Below w6.heap.size w6 wr) := HBb.out.trans (HB.out.mono HBb.out.size)
      clear HSk2 HSv HBb HB HZ0 HZ1
      go_wp2_with fail
      refine (zzOf_any wb.heap.size j j kf vf file pt fb _ HM.out hf hp HSL.out).mono ?_
      rintro e wo ⟨rfl, rfl⟩
      clear HM HSL
      go_wp2_with fail
      generalize hlf : (fun s => lk kf vf s j) = lf
      have HLF : Hid (∀ s, lk kf vf s j = lf s) := fun s => by rw [← hlf]
      clear hlf
      go_loop [14, 15] (fun v x => ∃ (q : Nat) (sv : ByteArray), 1 ≤ q ∧ q ≤ pt.size + 1 ∧ x = .int .i64 q ∧ v = .string sv ∧ Hid (sv = want lf file pt fb (q - 1))) (fun _ x => pt.size + 1 - (intOf x).toNat)
      case atStart => exact ⟨1, fb, Nat.le_refl _, by omega, rfl, rfl, rfl⟩
      case round =>
        obtain ⟨q, sv, hq1, hq2, rfl, rfl, HW⟩ := hrel
        by_cases hqs : q ≤ pt.size
        · have HW0 : Hid (sv = want lf file pt fb (q - 1)) := HW
          have hext : (pt.extract 0 q).size ≤ 1048576 := by simp; omega
          have yes : (q = pt.size ∨ bAt pt q = 47) → want lf file pt fb q = (lf (file ++ pt.extract 0 q)).getD (want lf file pt fb (q - 1)) := by
            intro h
            obtain ⟨m, rfl⟩ : ∃ m, q = m + 1 := ⟨q - 1, by omega⟩
            exact want_yes h
          have no : ¬ (q = pt.size ∨ bAt pt q = 47) → want lf file pt fb q = want lf file pt fb (q - 1) := by
            intro h
            obtain ⟨m, rfl⟩ : ∃ m, q = m + 1 := ⟨q - 1, by omega⟩
            exact want_no h
          have HYES : Hid _ := yes
          have HNO : Hid _ := no
          clear HW yes no
          by_cases hend : q = pt.size
          · have HY : Hid (want lf file pt fb q = (lf (file ++ pt.extract 0 q)).getD (want lf file pt fb (q - 1))) := HYES.out (.inl hend)
            have hqb : ((q : Int) == (pt.size : Int)) = true := by simp [hend]
            clear HYES HNO hend
            go_wp2_with fail
            refine (lookup_any ak av j ck cv kf vf (file ++ pt.extract 0 q) _ (by omega) HSk3.out HSv3.out).mono ?_
            rintro e wl ⟨rfl, rfl⟩
            cases hv : lf (file ++ pt.extract 0 q) with
            | some v =>
              have HG : Hid ((lk kf vf (file ++ pt.extract 0 q) j).getD ⟨#[]⟩ = want lf file pt fb q) := by
                show _ = _
                rw [HY.out, HLF.out, hv]; rfl
              have hso : (lk kf vf (file ++ pt.extract 0 q) j).isSome = true := by rw [HLF.out, hv]; rfl
              clear hv HY HW0
              go_wp2_with fail
              go_round
              case rel => exact ⟨q + 1, _, by omega, by omega, by go_num, rfl, HG.out⟩
              case measure => simp [intOf]; omega
            | none =>
              have HG : Hid (sv = want lf file pt fb q) := by
                show _ = _
                rw [HY.out, hv]; exact HW0.out
              have hso : (lk kf vf (file ++ pt.extract 0 q) j).isSome = false := by rw [HLF.out, hv]; rfl
              clear hv HY HW0
              go_wp2_with fail
              go_round
              case rel => exact ⟨q + 1, _, by omega, by omega, by go_num, rfl, HG.out⟩
              case measure => simp [intOf]; omega
          have hqlt : q < pt.size := by omega
          have hqne : ¬ q = pt.size := hend
          by_cases h47 : (pt[q].toNat : Int) = 47
          · have HY : Hid (want lf file pt fb q = (lf (file ++ pt.extract 0 q)).getD (want lf file pt fb (q - 1))) := HYES.out (.inr (by rw [bAt_eq pt q hqlt]; exact h47))
            have h47' : ((pt[q].toNat : Int) == 47) = true := by simp [h47]
            clear HYES HNO hend h47
            go_wp2_with fail
            refine (lookup_any ak av j ck cv kf vf (file ++ pt.extract 0 q) _ (by omega) HSk3.out HSv3.out).mono ?_
            rintro e wl ⟨rfl, rfl⟩
            cases hv : lf (file ++ pt.extract 0 q) with
            | some v =>
              have HG : Hid ((lk kf vf (file ++ pt.extract 0 q) j).getD ⟨#[]⟩ = want lf file pt fb q) := by
                show _ = _
                rw [HY.out, HLF.out, hv]; rfl
              have hso : (lk kf vf (file ++ pt.extract 0 q) j).isSome = true := by rw [HLF.out, hv]; rfl
              clear hv HY HW0
              go_wp2_with fail
              go_round
              case rel => exact ⟨q + 1, _, by omega, by omega, by go_num, rfl, HG.out⟩
              case measure => simp [intOf]; omega
            | none =>
              have HG : Hid (sv = want lf file pt fb q) := by
                show _ = _
                rw [HY.out, hv]; exact HW0.out
              have hso : (lk kf vf (file ++ pt.extract 0 q) j).isSome = false := by rw [HLF.out, hv]; rfl
              clear hv HY HW0
              go_wp2_with fail
              go_round
              case rel => exact ⟨q + 1, _, by omega, by omega, by go_num, rfl, HG.out⟩
              case measure => simp [intOf]; omega
          · have HG : Hid (sv = want lf file pt fb q) := by
              show _ = _
              rw [HNO.out (by intro h; rcases h with h | h; exact hqne h; rw [bAt_eq pt q hqlt] at h; exact h47 h)]
              exact HW0.out
            have h47' : ((pt[q].toNat : Int) == 47) = false := by simp [h47]
            clear HYES HNO hend h47 HW0
            go_wp2_with fail
            go_round
            case rel => exact ⟨q + 1, _, by omega, by omega, by go_num, rfl, HG.out⟩
            case measure => simp [intOf]; omega
        · have HQ : Hid (((want lf file pt fb pt.size).toList == sv.toList) = true) := beq_yes (by rw [HW.out, show q - 1 = pt.size by omega])
          clear HW
          go_wp2_with fail
          go_ret
          exact ⟨ret_bool HQ.out, HB3.out⟩

end Go.Proofs.Qxb6601102a.Walk
