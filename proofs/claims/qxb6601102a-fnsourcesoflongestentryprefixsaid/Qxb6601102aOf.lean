/-
  The contracts of (sources).of (37) and ZZSourcesOfB1 (29).
-/
import Derived.Test.Qxb6601102aMap
namespace Go.Proofs.Qxb6601102a.Off
set_option linter.unusedVariables false
open Go.RowKit
open Go.Proofs.Qxb6601102a.Sizes Go.Proofs.Qxb6601102a.Strs Go.Proofs.Qxb6601102a.Look Go.Proofs.Qxb6601102a.Mp

theorem ret_str {a b : ByteArray} (h : a = b) : Ending.returned (.string a) = .returned (.string b) := by rw [h]

/-- Of the cut at k: none longer has an entry. -/
def Inv (lf : ByteArray → Option ByteArray) (file pt fb p : ByteArray) (k : Nat) : Prop :=
  p = pt.extract 0 k ∧ (k = 0 ∨ k = pt.size ∨ bAt pt k = 47) ∧ want lf file pt fb pt.size = want lf file pt fb k

theorem Inv.found {lf : ByteArray → Option ByteArray} {file pt fb p v : ByteArray} {k : Nat} (h : Inv lf file pt fb p k) (hk : 0 < k) (hv : lf (file ++ p) = some v) : v = want lf file pt fb pt.size := by
  obtain ⟨rfl, h2, h3⟩ := h
  obtain ⟨j, rfl⟩ : ∃ j, k = j + 1 := ⟨k - 1, by omega⟩
  rw [h3, want_yes (by omega), hv]
  rfl

theorem Inv.next {lf : ByteArray → Option ByteArray} {file pt fb p : ByteArray} {k r : Nat} (h : Inv lf file pt fb p k) (hk : 0 < k) (hkp : k ≤ pt.size) (hv : lf (file ++ p) = none) (hr : LastSlash p r) : r < k ∧ Inv lf file pt fb (p.extract 0 r) r := by
  obtain ⟨rfl, h2, h3⟩ := h
  obtain ⟨hlt, hsl, hlast⟩ := hr
  have hs := cut_size pt k hkp
  have hrk : r < k := by omega
  have hb : bAt pt r = 47 := by
    rw [bAt_eq pt r (by omega), ← cut_get pt k r hlt (by omega)]
    exact hsl
  refine ⟨hrk, cut_cut pt k r (by omega), .inr (.inr hb), ?_⟩
  obtain ⟨j, rfl⟩ : ∃ j, k = j + 1 := ⟨k - 1, by omega⟩
  rw [h3, want_yes (by omega), hv]
  show want lf file pt fb j = _
  have := want_skip (lf := lf) (file := file) (pt := pt) (fb := fb) r (j - r) (by omega) (fun i h1 h2 => by
    rw [bAt_eq pt i (by omega), ← cut_get pt (j + 1) i (by omega) (by omega)]
    exact hlast i h1 (by omega))
  rwa [show r + (j - r) = j by omega] at this

theorem empty_no {p : ByteArray} (h : 0 < p.size) : p.toList.isEmpty = false := by
  rw [ByteArray.toList_eq]
  cases hl : p.data.toList with
  | nil =>
    have : p.data.toList.length = 0 := by rw [hl]; rfl
    have e : p.size = p.data.toList.length := rfl
    omega
  | cons _ _ => rfl
theorem empty_yes {p : ByteArray} (h : p.size = 0) : p.toList.isEmpty = true := by
  rw [ByteArray.toList_eq]
  cases hl : p.data.toList with
  | nil => rfl
  | cons x l =>
    have : p.data.toList.length = l.length + 1 := by rw [hl]; rfl
    have e : p.size = p.data.toList.length := rfl
    omega

set_option maxRecDepth 100000 in
set_option maxHeartbeats 400000 in
theorem of_any (b n m : Nat) (kf vf : Nat → ByteArray) (file pt fb : ByteArray) (w : World) (hM : MapIs w b n kf vf m) (hf : file.size ≤ 1048576) (hp : pt.size ≤ 1048576) (hsl : ∀ h : 0 < pt.size, (pt[0].toNat : Int) = 47) :
    Calls Try.prog 37 #[.map (some b), .string file, .string pt, .string fb] w fun e w' => e = .returned (.string (want (fun s => lk kf vf s m) file pt fb pt.size)) ∧ w' = w := by
  have HM : Hid (MapIs w b n kf vf m) := hM
  have HSL : Hid (∀ h : 0 < pt.size, (pt[0].toNat : Int) = 47) := hsl
  clear hM hsl
  go_enter Try.func37, Try.ntmps37
  go_wp2_with fail
  go_loop [9] (fun x => ∃ (k : Nat) (p : ByteArray), k ≤ pt.size ∧ p.size ≤ k ∧ k ≤ p.size ∧ x = .string p ∧ Hid (Inv (fun s => lk kf vf s m) file pt fb p k)) (fun x => (match x with | .string s => s.size | _ => 0))
  case atStart => exact ⟨pt.size, pt, Nat.le_refl _, Nat.le_refl _, Nat.le_refl _, rfl, by simp [ByteArray.extract_zero_size], .inr (.inl rfl), rfl⟩
  case round =>
    obtain ⟨k, p, hk, hpk, hkp, rfl, HI⟩ := hrel
    by_cases h0 : 0 < k
    · have hne := empty_no (p := p) (by omega)
      have hadd : (file ++ p).size ≤ maxLen := by unfold maxLen; simp; omega
      have HADD : Hid ((file ++ p).size ≤ maxLen) := hadd
      clear hadd
      cases hv : lk kf vf (file ++ p) m with
      | some v =>
        have HF : Hid (v = want (fun s => lk kf vf s m) file pt fb pt.size) := HI.out.found h0 hv
        have HG : Hid ((lk kf vf (file ++ p) m).getD ⟨#[]⟩ = v) := by rw [hv]; rfl
        have hso : (lk kf vf (file ++ p) m).isSome = true := by rw [hv]; rfl
        clear hv HI HSL
        go_wp2_with (at_lookup; refine wpList_look _ rfl _ _ 72 rfl Try.underlying72 b n m kf vf rfl HM.out (file ++ p) rfl HADD.out ?_)
        go_ret
        exact ⟨ret_str (HG.out.trans HF.out), rfl⟩
      | none =>
        have hso : (lk kf vf (file ++ p) m).isSome = false := by rw [hv]; rfl
        have HN : Hid (∀ r, LastSlash p r → r < k ∧ Inv (fun s => lk kf vf s m) file pt fb (p.extract 0 r) r) := fun r hr => HI.out.next h0 hk hv hr
        have hpp : 0 < p.size := by omega
        have HP0 : Hid ((p[0].toNat : Int) = 47) := by
          show _ = _
          have h1 := HSL.out (by omega)
          have h2 : ∀ (q : ByteArray) (e : q = pt.extract 0 k) (hq : 0 < q.size), (q[0].toNat : Int) = 47 := by
            intro q e hq
            subst e
            rw [cut_get pt k 0 hq (by omega)]
            exact h1
          exact h2 p HI.out.1 hpp
        clear hv HI
        go_wp2_with (at_lookup; refine wpList_look _ rfl _ _ 72 rfl Try.underlying72 b n m kf vf rfl HM.out (file ++ p) rfl HADD.out ?_)
        refine (lastIndex_any p _ (by omega) hpp HP0.out).mono ?_
        rintro en w' ⟨r, hr, rfl, rfl⟩
        obtain ⟨hrk, hinv⟩ := HN.out r hr
        have HI' : Hid (Inv (fun s => lk kf vf s m) file pt fb (p.extract 0 r) r) := hinv
        have hrp : r ≤ p.size := by omega
        clear hr hinv HN
        go_wp2_with fail
        go_round
        case rel => exact ⟨r, p.extract 0 r, by omega, by simp; omega, by simp; omega, rfl, HI'⟩
        case measure => simp; omega
    · have hne := empty_yes (p := p) (by omega)
      have HF : Hid (fb = want (fun s => lk kf vf s m) file pt fb pt.size) := by
        show _ = _
        obtain ⟨_, _, h3⟩ := HI.out
        rw [h3, show k = 0 by omega]
        rfl
      clear HI HSL
      go_wp2_with fail
      go_ret
      exact ⟨ret_str HF.out, rfl⟩

theorem zzOf_any (b n m : Nat) (kf vf : Nat → ByteArray) (file pt fb : ByteArray) (w : World) (hM : MapIs w b n kf vf m) (hf : file.size ≤ 1048576) (hp : pt.size ≤ 1048576) (hsl : ∀ h : 0 < pt.size, (pt[0].toNat : Int) = 47) :
    Calls Try.prog 29 #[.map (some b), .string file, .string pt, .string fb] w fun e w' => e = .returned (.string (want (fun s => lk kf vf s m) file pt fb pt.size)) ∧ w' = w := by
  have HM : Hid (MapIs w b n kf vf m) := hM
  have HSL : Hid (∀ h : 0 < pt.size, (pt[0].toNat : Int) = 47) := hsl
  clear hM hsl
  go_enter Try.func29, Try.ntmps29
  go_wp2_with fail
  refine (of_any b n m kf vf file pt fb _ HM.out hf hp HSL.out).mono ?_
  rintro en w' ⟨rfl, rfl⟩
  clear HM HSL
  go_wp2_with fail
  go_ret
  exact ⟨rfl, rfl⟩

end Go.Proofs.Qxb6601102a.Off
