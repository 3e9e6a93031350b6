/-
  The walk of FnArrayWalkMatchesGrammar (7).
-/
import Derived.Test.Qxb6000571aPVal
import Derived.OpenShut
namespace Go.Proofs.Qxb6000571a.Walk6
set_option linter.unusedVariables false
open Go.RowKit
open Go.Proofs.Qxb6000571a.Plain Go.Proofs.Qxb6000571a.Str Go.Proofs.Qxb6000571a.Bytes Go.Proofs.Qxb6000571a.Skp Go.Proofs.Qxb6000571a.Vl Go.Proofs.Qxb6000571a.Parse

theorem zz (a0 : Option Addr) (n cap : Nat) (w : World) (hn : n ≤ maxLen) :
    Calls Try.prog 20 #[.slice a0 n cap] w fun e w' => (∃ b, e = .returned (.bool b)) ∧ w' = w := by
  unfold maxLen at hn
  go_enter Try.func20, Try.ntmps20
  go_wp2
  all_goals
    go_ret
    exact ⟨⟨_, rfl⟩, rfl⟩

theorem row_le {w : World} {a0 : Option Addr} {n cap : Nat} {zs : List Int} (h : IsRow .u8 w a0 n cap zs) : n ≤ maxLen := by
  rcases h with ⟨_, rfl, _⟩ | ⟨x, _, h1, h2, _⟩
  · exact Nat.zero_le _
  · omega

/-- The first cell of a row that is not empty. -/
theorem row_first {w : World} {a0 : Option Addr} {n cap : Nat} {zs : List Int} (h : IsRow .u8 w a0 n cap zs) (hn : 0 < n) : ∃ b off, a0 = some ⟨b, off, none⟩ ∧ w.cell? ⟨b, off, none⟩ = some (.int .u8 (at' zs 0)) := by
  rcases h with ⟨_, rfl, _⟩ | ⟨x, rfl, h1, h2, h3, h4, _⟩
  · omega
  · obtain ⟨b, off, spot⟩ := x
    have hspot : spot = none := by simpa [Addr.add] using World.cell?_spot (h4 0 (by omega))
    subst hspot
    have := h4 0 (by omega)
    rw [Addr.add_lit, Nat.add_zero] at this
    exact ⟨b, off, rfl, this⟩

theorem zzSkip_at (g n cap i : Nat) (x : Int) (f : Nat → Int) (w : World) (hx : x = (i : Int)) (hn : n ≤ 4611686018427387904) (hi : i ≤ 9223372036854775807) (hg : g < w.heap.size) (hc : ∀ k, k < n → w.cell? ⟨g, k, none⟩ = some (.int .u8 (f k))) :
    Calls Try.prog 22 #[.slice (some ⟨g, 0, none⟩) n cap, .int .i64 x] w fun en w' => ∃ j : Nat, Skip f n i j ∧ en = .returned (.int .i64 j) ∧ Below w.heap.size w w' := by
  subst hx
  exact zzSkipSpace_any g n cap i (some ⟨g, 0, none⟩) f w hn hi (fun _ => rfl) (fun _ => hg) hc

theorem pa_at (g n cap : Nat) (f : Nat → Int) (w : World) (hn : n ≤ 2305843009213693952) (hc : ∀ k, k < n → w.cell? ⟨g, k, none⟩ = some (.int .u8 (f k))) (hi : 0 < n) :
    Calls Try.prog 21 #[.slice (some ⟨g, 0, none⟩) n cap, .int .i64 0] w fun en w' => PA f n 0 en ∧ w' = w := pa_all g n cap 0 f w hn hc hi

/-- An element's head is no closing bracket. -/
theorem El.head {f : Nat → Int} {n m j e : Nat} (h : El f n m j e) : f j ≠ 93 ∧ j < n ∧ 1 ≤ m := by
  cases m with
  | zero => exact h.elim
  | succ m =>
    obtain ⟨v, j2, hv, _⟩ := h
    have hl := hv.lt
    refine ⟨?_, by omega, by omega⟩
    rcases hv with ⟨h1, _⟩ | ⟨h1, _⟩ | ⟨_, _, _, h4, _, h6⟩
    · omega
    · omega
    · have := (isSc_iff _).1 (h6 j (Nat.le_refl _) h4)
      omega

/-- What the walk's loop keeps: the world, the text in it. -/
def At (w wr : World) (g n : Nat) (f : Nat → Int) : Prop := Below w.heap.size w wr ∧ g < wr.heap.size ∧ ∀ k, k < n → wr.cell? ⟨g, k, none⟩ = some (.int .u8 (f k))
theorem At.next {w wr wx : World} {g n : Nat} {f : Nat → Int} (h : At w wr g n f) (hb : Below wr.heap.size wr wx) : At w wx g n f :=
  ⟨h.1.trans (hb.mono h.1.size), Nat.lt_of_lt_of_le h.2.1 hb.size, fun k hk => (hb.cell (p := ⟨g, k, none⟩) h.2.1).trans (h.2.2 k hk)⟩

set_option maxRecDepth 100000 in
set_option maxHeartbeats 1600000 in
theorem walk (a0 : Option Addr) (len0 cap0 : Nat) (z0 : List Int) (w : World) (w0 : IsRow .u8 w a0 len0 cap0 z0) :
    Calls Try.prog 7 #[.slice a0 len0 cap0] w fun e w' => e = .returned (.bool true) ∧ Below w.heap.size w w' := by
  have hle := row_le w0
  have Z := zz a0 len0 cap0 w hle
  unfold maxLen at hle
  have HR : Hid _ := w0
  clear w0
  go_enter Try.func7, Try.ntmps7
  go_wp2_with fail
  refine Z.mono ?_
  rintro e w' ⟨⟨b, rfl⟩, rfl⟩
  clear Z
  cases b
  · go_wp2_with fail
    go_ret
    exact ⟨rfl, Below.refl _ _⟩
  by_cases hn : len0 ≤ 65536
  rotate_left
  · go_wp2_with fail
    go_ret
    exact ⟨rfl, Below.refl _ _⟩
  by_cases hpos : 0 < len0
  rotate_left
  · go_wp2_with fail
    go_ret
    exact ⟨rfl, Below.refl _ _⟩
  have hne : ¬ len0 = 0 := by omega
  obtain ⟨b0, off0, rfl, hcell0⟩ := row_first HR.out hpos
  by_cases h91 : at' z0 0 = 91
  rotate_left
  · have h91' : (at' z0 0 != 91) = true := by simp [h91]
    clear h91
    go_wp2_with fail
    go_ret
    exact ⟨rfl, Below.refl _ _⟩
  have h91' : (at' z0 0 != 91) = false := by simp [h91]
  clear h91
  go_wp2_with fail
  obtain ⟨L, hL, -, hcl⟩ := clone_row _ len0 cap0 z0 w' HR.out (by omega) (.inl (by omega))
  refine hcl.mono ?_
  rintro e wa ⟨rfl, ho, hb⟩
  have hA : At w' wa w'.heap.size len0 (at' L) := ⟨hb, ho.lt.2, fun k hk => ho.cell k (by omega)⟩
  have HA : Hid (At w' wa w'.heap.size len0 (at' L)) := hA
  clear ho hcl hL hA HR hb hcell0
  generalize at' L = f at HA
  clear L
  go_wp2_with fail
  refine (pa_at w'.heap.size len0 len0 f wa (by omega) HA.out.2.2 hpos).mono ?_
  rintro en wb ⟨hpa, rfl⟩
  rcases hpa with ⟨e, m, ⟨j0, hs0, har⟩, rfl⟩ | rfl
  rotate_left
  · go_wp2_with fail
    go_ret
    exact ⟨rfl, HA.out.1⟩
  have HAR : Hid _ := har
  have HS0 : Hid _ := hs0
  clear har hs0
  go_wp2_with fail
  refine (zzSkip_at w'.heap.size len0 len0 1 _ f _ rfl (by omega) (by omega) HA.out.2.1 HA.out.2.2).mono ?_
  rintro en wc ⟨j1, hs1, rfl, hbc⟩
  obtain rfl : j1 = j0 := hs1.uniq HS0.out
  have HB : Hid (At w' wc w'.heap.size len0 f) := HA.out.next hbc
  have hbd := Skip.bd hs1 (by omega)
  clear hs1 hbc HA HS0
  rcases HAR.out with ⟨k1, k2, rfl, k4⟩ | hel
  · have hcell := HB.out.2.2 j1 k1
    have h93 : (f j1 == 93) = true := by simp [k2]
    have HK : Hid (e = j1 + 1) := k4
    clear k2 k4 HAR
    go_wp2_with fail
    go_ret
    exact ⟨by rw [HK.out]; simp, HB.out.1⟩
  · have hh := El.head hel
    have hj1 := hh.2.1
    have hcell := HB.out.2.2 j1 hj1
    have h93 : (f j1 == 93) = false := by simp [hh.1]
    have HEL : Hid (El f len0 m j1 e) := hel
    have hj1' : ¬ len0 ≤ j1 := by omega
    clear hh hel HAR
    go_wp2_with fail
    go_loopw [6, 7] (fun x y wr => ∃ j c q : Nat, c ≤ j ∧ x = .int .i64 j ∧ y = .int .i64 c ∧ Hid (El f len0 q j e ∧ q + c = m) ∧ Hid (At w' wr w'.heap.size len0 f)) (fun x _ _ => len0 - (intOf x).toNat)
    case atStart => exact ⟨j1, 0, m, Nat.zero_le _, rfl, rfl, ⟨HEL.out, rfl⟩, HB⟩
    case round =>
      clear hcell h93 HEL HB hj1
      obtain ⟨j, c, q, hcj, rfl, rfl, HE, HW⟩ := hrel
      obtain ⟨p, rfl⟩ : ∃ p, q = p + 1 := ⟨q - 1, by have := (El.head HE.out.1).2.2; omega⟩
      obtain ⟨v, j2, hv, hs2, hj2, hr⟩ := HE.out.1
      have hve : VE f len0 j v := by
        refine hv.ve_of_skip hs2 hj2 ?_
        rcases hr with ⟨h, _⟩ | ⟨h, _⟩ <;> omega
      have hvl := hv.lt
      have hb2 := Skip.bd hs2 (by omega)
      have HM : Hid (p + 1 + c = m) := HE.out.2
      have HVE : Hid (VE f len0 j v) := hve
      have HS2 : Hid (Skip f len0 v j2) := hs2
      have HRR : Hid _ := hr
      have hjn : j < len0 := by omega
      have hjn' : ¬ len0 ≤ j := by omega
      have hv1 : ¬ v ≤ j := by omega
      have hv2 : ¬ len0 < v := by omega
      have hj2' : ¬ len0 ≤ j2 := by omega
      clear hv hs2 hve hr HE
      go_wp2_with fail
      refine (zzValueEnd_any w'.heap.size len0 len0 j v f _ (by omega) HW.out.2.2 HVE.out).mono ?_
      rintro en wd ⟨rfl, rfl⟩
      clear HVE
      go_wp2_with fail
      refine (zzSkip_at w'.heap.size len0 len0 v _ f _ rfl (by omega) (by omega) HW.out.2.1 HW.out.2.2).mono ?_
      rintro en we ⟨jx, hsx, rfl, hbe⟩
      obtain rfl : jx = j2 := hsx.uniq HS2.out
      have HW2 : Hid (At w' we w'.heap.size len0 f) := HW.out.next hbe
      have hcell := HW2.out.2.2 jx hj2
      clear hsx HS2 hbe HW
      rcases HRR.out with ⟨h44, j3, hs3, hel⟩ | ⟨h93, hp0, he⟩
      · have h44' : (f jx == 44) = true := by simp [h44]
        have HE3 : Hid (El f len0 p j3 e ∧ p + (c + 1) = m) := ⟨hel, by have := HM.out; omega⟩
        have HS3 : Hid (Skip f len0 (jx + 1) j3) := hs3
        have hb3 := Skip.bd hs3 (by omega)
        clear h44 hs3 hel HRR HM
        go_wp2_with fail
        refine (zzSkip_at w'.heap.size len0 len0 (jx + 1) _ f _ (by omega) (by omega) (by omega) HW2.out.2.1 HW2.out.2.2).mono ?_
        rintro en wf ⟨jy, hsy, rfl, hbf⟩
        obtain rfl : jy = j3 := hsy.uniq HS3.out
        have HW3 : Hid (At w' wf w'.heap.size len0 f) := HW2.out.next hbf
        clear hsy HS3 hbf HW2 hcell
        go_wp2_with fail
        go_roundw
        case rel => exact ⟨jy, c + 1, p, by omega, rfl, by go_num, HE3, HW3⟩
        case measure => simp [intOf]; omega
      · have h44' : (f jx == 44) = false := by simp [h93]
        have h93' : (f jx == 93) = true := by simp [h93]
        have hm1 : m = c + 1 := by have := HM.out; omega
        subst hm1
        subst he
        clear h93 HRR HM hp0
        go_wp2_with fail
        go_ret
        exact ⟨by simp, HW2.out.1⟩

end Go.Proofs.Qxb6000571a.Walk6
