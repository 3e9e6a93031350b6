/-
  The walk of FnValueEndMatchesGrammar (6).
-/
import Derived.Test.Qxb6000571aPVal
import Derived.OpenShut
namespace Go.Proofs.Qxb6000571a.Walk5
set_option linter.unusedVariables false
open Go.RowKit
open Go.Proofs.Qxb6000571a.Plain Go.Proofs.Qxb6000571a.Str Go.Proofs.Qxb6000571a.Bytes Go.Proofs.Qxb6000571a.Skp Go.Proofs.Qxb6000571a.Vl Go.Proofs.Qxb6000571a.Parse

theorem zz (a0 : Option Addr) (n cap : Nat) (a1 : Int) (w : World) (hn : n ≤ maxLen) :
    Calls Try.prog 17 #[.slice a0 n cap, .int .i64 a1] w fun e w' => (∃ b, e = .returned (.bool b)) ∧ w' = w := by
  unfold maxLen at hn
  go_enter Try.func17, Try.ntmps17
  go_wp2
  all_goals
    go_ret
    exact ⟨⟨_, rfl⟩, rfl⟩

theorem row_le {w : World} {a0 : Option Addr} {n cap : Nat} {zs : List Int} (h : IsRow .u8 w a0 n cap zs) : n ≤ maxLen := by
  rcases h with ⟨_, rfl, _⟩ | ⟨x, _, h1, h2, _⟩
  · exact Nat.zero_le _
  · omega

set_option maxHeartbeats 800000 in
theorem walk (a0 : Option Addr) (len0 cap0 : Nat) (z0 : List Int) (a1 : Int) (w : World) (w0 : IsRow .u8 w a0 len0 cap0 z0) (w1 : (Lit.int .i64 a1).wf = true) :
    Calls Try.prog 6 #[.slice a0 len0 cap0, .int .i64 a1] w fun e w' => e = .returned (.bool true) ∧ Below w.heap.size w w' := by
  have hle := row_le w0
  have Z := zz a0 len0 cap0 a1 w hle
  unfold maxLen at hle
  have hwf := bounds_i64 w1
  have HR : Hid _ := w0
  clear w0 w1
  go_enter Try.func6, Try.ntmps6
  go_wp2_with fail
  refine Z.mono ?_
  rintro e w' ⟨⟨b, rfl⟩, rfl⟩
  clear Z
  cases b
  · go_wp2_with fail
    go_ret
    exact ⟨rfl, Below.refl _ _⟩
  by_cases hn : len0 ≤ 65536
  rotate_left
  · go_wp2_with fail
    go_ret
    exact ⟨rfl, Below.refl _ _⟩
  by_cases hneg : a1 < 0
  · go_wp2_with fail
    go_ret
    exact ⟨rfl, Below.refl _ _⟩
  obtain ⟨i, rfl⟩ := Int.eq_ofNat_of_zero_le (show 0 ≤ a1 by omega)
  by_cases hin : i < len0
  rotate_left
  · have hin' : len0 ≤ i := by omega
    go_wp2_with fail
    go_ret
    exact ⟨rfl, Below.refl _ _⟩
  have hni : ¬ len0 ≤ i := by omega
  go_wp2_with fail
  obtain ⟨L, hL, -, hcl⟩ := clone_row a0 len0 cap0 z0 w' HR.out (by omega) (.inl (by omega))
  refine hcl.mono ?_
  rintro e wa ⟨rfl, ho, hb⟩
  have hc : ∀ k, k < len0 → wa.cell? ⟨w'.heap.size, k, none⟩ = some (.int .u8 (at' L k)) := fun k hk => ho.cell k (by omega)
  have HC : Hid (∀ k, k < len0 → wa.cell? ⟨w'.heap.size, k, none⟩ = some (.int .u8 (at' L k))) := hc
  clear ho hcl hL hc HR
  generalize at' L = f at HC
  clear L
  go_wp2_with fail
  refine (pv_all w'.heap.size len0 len0 i f wa (by omega) HC.out (by omega)).mono ?_
  rintro en wb ⟨hpv, rfl⟩
  rcases hpv with ⟨e, hv, rfl⟩ | rfl
  rotate_left
  · go_wp2_with fail
    go_ret
    exact ⟨rfl, hb⟩
  have hvl := hv.lt
  have HV : Hid (Val f len0 i e) := hv
  have hcell := HC.out i hin
  clear hv
  have fin : (f i = 34 ∨ f i = 91 ∨ f i = 123 ∨ e = len0 ∨ isEnd (f e) = true) → VE f len0 i e := fun h => HV.out.ve h
  have HF : Hid _ := fin
  clear fin HV
  by_cases h34 : f i = 34
  · have h34' : (f i != 34) = false := by simp [h34]
    have HVE : Hid (VE f len0 i e) := HF.out (.inl h34)
    clear h34 HF
    go_wp2_with fail
    refine (zzValueEnd_any w'.heap.size len0 len0 i e f _ (by omega) HC.out HVE.out).mono ?_
    rintro en wc ⟨rfl, rfl⟩
    clear HVE HC
    go_wp2_with fail
    go_ret
    exact ⟨by simp, hb⟩
  have h34' : (f i != 34) = true := by simp [h34]
  by_cases h123 : f i = 123
  · have h123' : (f i != 123) = false := by simp [h123]
    have HVE : Hid (VE f len0 i e) := HF.out (.inr (.inr (.inl h123)))
    clear h34 h123 HF
    go_wp2_with fail
    refine (zzValueEnd_any w'.heap.size len0 len0 i e f _ (by omega) HC.out HVE.out).mono ?_
    rintro en wc ⟨rfl, rfl⟩
    clear HVE HC
    go_wp2_with fail
    go_ret
    exact ⟨by simp, hb⟩
  have h123' : (f i != 123) = true := by simp [h123]
  by_cases h91 : f i = 91
  · have h91' : (f i != 91) = false := by simp [h91]
    have HVE : Hid (VE f len0 i e) := HF.out (.inr (.inl h91))
    clear h34 h123 h91 HF
    go_wp2_with fail
    refine (zzValueEnd_any w'.heap.size len0 len0 i e f _ (by omega) HC.out HVE.out).mono ?_
    rintro en wc ⟨rfl, rfl⟩
    clear HVE HC
    go_wp2_with fail
    go_ret
    exact ⟨by simp, hb⟩
  have h91' : (f i != 91) = true := by simp [h91]
  clear h34 h123 h91
  by_cases hel : e < len0
  · have hcelle := HC.out e hel
    by_cases hend : isEnd (f e) = true
    · have HVE : Hid (VE f len0 i e) := HF.out (.inr (.inr (.inr (.inr hend))))
      clear HF
      go_wp2_with (go_at_call 15; refine (isEnd_any _ _).mono ?_; rintro en wq ⟨rfl, rfl⟩)
      refine (zzValueEnd_any w'.heap.size len0 len0 i e f _ (by omega) HC.out HVE.out).mono ?_
      rintro en wc ⟨rfl, rfl⟩
      clear HVE HC
      go_wp2_with fail
      go_ret
      exact ⟨by simp, hb⟩
    · have hend' : isEnd (f e) = false := by simpa using hend
      clear HF hend
      go_wp2_with (go_at_call 15; refine (isEnd_any _ _).mono ?_; rintro en wq ⟨rfl, rfl⟩)
      go_ret
      exact ⟨rfl, hb⟩
  · have HVE : Hid (VE f len0 i e) := HF.out (.inr (.inr (.inr (.inl (by omega)))))
    clear HF
    go_wp2_with (go_at_call 15; refine (isEnd_any _ _).mono ?_; rintro en wq ⟨rfl, rfl⟩)
    refine (zzValueEnd_any w'.heap.size len0 len0 i e f _ (by omega) HC.out HVE.out).mono ?_
    rintro en wc ⟨rfl, rfl⟩
    clear HVE HC
    go_wp2_with fail
    go_ret
    exact ⟨by simp, hb⟩

end Go.Proofs.Qxb6000571a.Walk5
