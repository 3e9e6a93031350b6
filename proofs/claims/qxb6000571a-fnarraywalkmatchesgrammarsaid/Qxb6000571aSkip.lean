/-
  Contracts: tokB1SkipWS (31), tokB1Clone (18), ZZSkipSpace (22) with (*listReader).skipSpace (32).
-/
import Derived.Test.Qxb6000571aBytes
import Derived.Deep.QuietTactic
import Derived.BigQuiet
namespace Go.Proofs.Qxb6000571a.Skp
set_option linter.unusedVariables false
open Go.RowKit
open Go.Proofs.Qxb6000571a.Plain Go.Proofs.Qxb6000571a.Str Go.Proofs.Qxb6000571a.Bytes

/-- Where skipping has come to: all behind i is white. -/
def Pre (f : Nat → Int) (n i j : Nat) : Prop := i ≤ j ∧ (j ≤ n ∨ j = i) ∧ ∀ k, i ≤ k → k < j → isWs (f k) = true
theorem Pre.refl (f : Nat → Int) (n i : Nat) : Pre f n i i := ⟨Nat.le_refl _, .inr rfl, fun k h1 h2 => absurd h1 (by omega)⟩
theorem Pre.succ {f : Nat → Int} {n i j : Nat} (h : Pre f n i j) (hj : j < n) (hw : isWs (f j) = true) : Pre f n i (j + 1) :=
  ⟨by have := h.1; omega, .inl hj, fun k h1 h2 => by
    by_cases e : k = j
    · rw [e]; exact hw
    · exact h.2.2 k h1 (by omega)⟩
theorem Pre.done {f : Nat → Int} {n i j : Nat} (h : Pre f n i j) (hd : n ≤ j ∨ isWs (f j) = false) : Skip f n i j := ⟨h.1, h.2.1, h.2.2, hd⟩

set_option maxHeartbeats 400000 in
theorem skipWS_any (g n cap i : Nat) (f : Nat → Int) (w : World) (hn : n ≤ 4611686018427387904) (hi : i ≤ 4611686018427387905) (hc : ∀ k, k < n → w.cell? ⟨g, k, none⟩ = some (.int .u8 (f k))) :
    Calls Try.prog 31 #[.slice (some ⟨g, 0, none⟩) n cap, .int .i64 i] w fun en w' => ∃ j : Nat, Skip f n i j ∧ en = .returned (.int .i64 j) ∧ w' = w := by
  go_enter Try.func31, Try.ntmps31
  go_wp2_with fail
  go_loop [1] (fun x => ∃ j : Nat, Hid (Pre f n i j) ∧ x = .int .i64 j) (fun x => n - (intOf x).toNat)
  case atStart => exact ⟨i, Pre.refl _ _ _, rfl⟩
  case round =>
    obtain ⟨j, hp, rfl⟩ := hrel
    have hp1 := hp.out.1
    have hp2 : j ≤ n ∨ j ≤ i := by have := hp.out.2.1; omega
    by_cases hj : j < n
    · have hcell := hc j hj
      by_cases hw : isWs (f j) = true
      · have hp' : Hid (Pre f n i (j + 1)) := hp.out.succ hj hw
        clear hp
        go_wp2_with (go_at_call 24; refine (isWS_any _ _).mono ?_; rintro e w' ⟨rfl, rfl⟩)
        go_round
        case rel => exact ⟨j + 1, hp', by go_num⟩
        case measure => simp [intOf]; omega
      · have hw' : isWs (f j) = false := by simpa using hw
        have hs : Hid (Skip f n i j) := hp.out.done (.inr hw')
        clear hp hw
        go_wp2_with (go_at_call 24; refine (isWS_any _ _).mono ?_; rintro e w' ⟨rfl, rfl⟩)
        go_ret
        exact ⟨j, hs, rfl, rfl⟩
    · have hs : Hid (Skip f n i j) := hp.out.done (.inl (by omega))
      clear hp
      go_wp2_with (go_at_call 24; refine (isWS_any _ _).mono ?_; rintro e w' ⟨rfl, rfl⟩)
      go_ret
      exact ⟨j, hs, rfl, rfl⟩

/-! ### Clone -/
theorem B_set (L : List Int) (k : Nat) (x : Int) : (B L).set k (.int .u8 x) = B (L.set k x) := by simp [B, List.map_set]

theorem at_set (Y : List Int) (k j : Nat) (x : Int) (hk : k < Y.length) : at' (Y.set k x) j = if j = k then x else at' Y j := by
  unfold at'
  by_cases h : j = k
  · subst h; simp [hk]
  · have h' : ¬ k = j := fun e => h e.symm
    simp [h, h']

theorem eq_of_at {Y L : List Int} (hl : Y.length = L.length) (h : ∀ j, j < L.length → at' Y j = at' L j) : Y = L := by
  apply List.ext_getElem hl
  intro i h1 h2
  have := h i h2
  simpa [at', h1, h2] using this

set_option maxHeartbeats 400000 in
theorem clone_core (b off n cap : Nat) (L : List Int) (w : World) (hn : n ≤ 1048576) (hL : L.length = n) (hc : ∀ k, k < n → w.cell? ⟨b, off + k, none⟩ = some (.int .u8 (at' L k))) (hb : b < w.heap.size) :
    Calls Try.prog 18 #[.slice (some ⟨b, off, none⟩) n cap] w fun en w' => en = .returned (.slice (some ⟨w.heap.size, 0, none⟩) n n) ∧ Own w' w.heap.size w.heap.size n L ∧ Below w.heap.size w w' := by
  obtain ⟨i0, hi, hz0, hz1, hz2⟩ := info_parts info5
  have hnil := fun wx => Lib.run_eql_slice_nil (P := Try.prog) wx 23 5 (some ⟨b, off, none⟩) n cap 0 0 Try.underlying23
  have HL : Hid (L.length = n) := hL
  clear hL
  go_enter Try.func18, Try.ntmps18
  go_wp2_with (at_make; refine wpList_make_full _ rfl _ _ 23 rfl w.heap.size 5 i0 (.int .u8 0) 1 Try.underlying23 hi hz0 hz1 _ _ _ _ n rfl rfl rfl rfl (by rw [hz2]; omega) (by unfold maxLen; omega) (Nat.le_refl _) ?_)
  intro wa hoa hga
  have hba : Below w.heap.size w wa := (Below.refl _ _).grown hga (Nat.le_refl _) (by intro q hq; cases hq)
  have hoa' : Own wa w.heap.size w.heap.size n (List.replicate n 0) := by
    unfold Own
    rw [List.length_replicate]
    rw [toList_madeCells_one] at hoa
    have e : B (List.replicate n 0) = List.replicate n (.int .u8 0) := by simp [B]
    rw [e]
    exact hoa
  clear hoa hga
  go_wp2_with fail
  go_loopw [4] (fun x wr => ∃ (k : Nat) (Y : List Int), k ≤ n ∧ x = .int .i64 k ∧ Own wr w.heap.size w.heap.size n Y ∧ Hid (Y.length = n) ∧ Hid (∀ j, j < k → at' Y j = at' L j) ∧ Below w.heap.size w wr) (fun x _ => n - (intOf x).toNat)
  case atStart => exact ⟨0, _, Nat.zero_le _, rfl, hoa', List.length_replicate, fun j hj => absurd hj (by omega), hba⟩
  case round =>
    clear hoa' hba
    obtain ⟨k, Y, hk, rfl, ho, HY, Hat, hbl⟩ := hrel
    by_cases hlt : k < n
    · have hsrc : wr.cell? ⟨b, off + k, none⟩ = some (.int .u8 (at' L k)) := (hbl.cell hb).trans (hc k hlt)
      have hky : k < Y.length := by rw [HY.out]; exact hlt
      have hdst := ho.cell k hky
      have hfr := World.ownsRow.frozenAt ho k
      have R : Own (wr.setCell ⟨w.heap.size, k, none⟩ (.int .u8 (at' L k))) w.heap.size w.heap.size n (Y.set k (at' L k)) := by
        have := (World.ownsRow.stored ho k (.int .u8 (at' L k))).1
        unfold Own
        rw [List.length_set, ← B_set]
        exact this
      have HR : Hid (Own (wr.setCell ⟨w.heap.size, k, none⟩ (.int .u8 (at' L k))) w.heap.size w.heap.size n (Y.set k (at' L k))) := R
      have HB : Hid (Below w.heap.size w (wr.setCell ⟨w.heap.size, k, none⟩ (.int .u8 (at' L k)))) := hbl.setCell (Nat.le_refl _) _
      have Hat' : Hid (∀ j, j < k + 1 → at' (Y.set k (at' L k)) j = at' L j) := by
        intro j hj
        rw [at_set Y k j _ hky]
        split
        · rename_i h; rw [h]
        · exact Hat.out j (by omega)
      clear R ho Hat hky
      go_wp2_with fail
      go_roundw
      case rel => exact ⟨k + 1, Y.set k (at' L k), hlt, by go_num, HR.out, by rw [List.length_set]; exact HY.out, Hat'.out, HB.out⟩
      case measure => simp [intOf]; omega
    · have e : Y = L := eq_of_at (by rw [HY.out, HL.out]) (fun j hj => Hat.out j (by have := HL.out; omega))
      have R : Own wr w.heap.size w.heap.size n L := by rw [← e]; exact ho
      clear e ho Hat HY
      go_wp2_with fail
      go_ret
      exact ⟨rfl, R, hbl⟩

set_option maxHeartbeats 400000 in
theorem clone_empty (a : Addr) (cap : Nat) (w : World) :
    Calls Try.prog 18 #[.slice (some a) 0 cap] w fun en w' => en = .returned (.slice (some ⟨w.heap.size, 0, none⟩) 0 0) ∧ Own w' w.heap.size w.heap.size 0 [] ∧ Below w.heap.size w w' := by
  obtain ⟨i0, hi, hz0, hz1, hz2⟩ := info_parts info5
  have hnil := fun wx => Lib.run_eql_slice_nil (P := Try.prog) wx 23 5 (some a) 0 cap 0 0 Try.underlying23
  go_enter Try.func18, Try.ntmps18
  go_wp2_with (at_make; refine wpList_make_full _ rfl _ _ 23 rfl w.heap.size 5 i0 (.int .u8 0) 1 Try.underlying23 hi hz0 hz1 _ _ _ _ 0 rfl rfl rfl rfl (by omega) (by unfold maxLen; omega) (Nat.le_refl _) ?_)
  intro wa hoa hga
  have hba : Below w.heap.size w wa := (Below.refl _ _).grown hga (Nat.le_refl _) (by intro q hq; cases hq)
  have hoa' : Own wa w.heap.size w.heap.size 0 [] := by rw [toList_madeCells_one] at hoa; exact hoa
  clear hoa hga
  go_wp2_with fail
  refine wp_loop_rounds 1 ?_
  rw [rounds_succ]
  go_wp2_with fail
  go_ret
  exact ⟨rfl, hoa', hba⟩

set_option maxHeartbeats 400000 in
theorem clone_nil (w : World) :
    Calls Try.prog 18 #[.slice none 0 0] w fun en w' => en = .returned (.slice none 0 0) ∧ w' = w := by
  have hnil := fun wx => Lib.run_eql_slice_nil (P := Try.prog) wx 23 5 none 0 0 0 0 Try.underlying23
  go_enter Try.func18, Try.ntmps18
  go_wp2_with fail
  go_ret
  exact ⟨rfl, rfl⟩

/-- The row that came in, as the clone leaves it: nil (and then no byte), or a row of the call's own. -/
theorem clone_row (a : Option Addr) (len cap : Nat) (zs : List Int) (w : World) (hr : IsRow .u8 w a len cap zs) (hn : len ≤ 1048576) (hpos : 0 < len ∨ a.isSome = true) :
    ∃ L : List Int, L.length = len ∧ (∀ k, k < len → at' L k = at' zs k) ∧ Calls Try.prog 18 #[.slice a len cap] w fun en w' => en = .returned (.slice (some ⟨w.heap.size, 0, none⟩) len len) ∧ Own w' w.heap.size w.heap.size len L ∧ Below w.heap.size w w' := by
  rcases hr with ⟨rfl, rfl, rfl, rfl⟩ | ⟨x, rfl, h1, h2, h3, h4, h5⟩
  · simp at hpos
  · by_cases h0 : len = 0
    · subst h0
      exact ⟨[], rfl, fun k hk => absurd hk (by omega), clone_empty x cap w⟩
    · obtain ⟨b, off, spot⟩ := x
      have hspot : spot = none := by simpa [Addr.add] using World.cell?_spot (h4 0 (by omega))
      subst hspot
      have hcell : ∀ k, k < len → w.cell? ⟨b, off + k, none⟩ = some (.int .u8 (at' zs k)) := fun k hk => by
        have := h4 k (by omega)
        rw [Addr.add_lit] at this
        exact this
      have hlt : b < w.heap.size := by
        have := World.block_lt_of_cell? w _ (hcell 0 (by omega))
        exact this
      have hat : ∀ k, k < len → at' (zs.take len) k = at' zs k := fun k hk => by
        simp [at', hk]
      refine ⟨zs.take len, by simp; omega, hat, ?_⟩
      exact clone_core b off len cap (zs.take len) w hn (by simp; omega) (fun k hk => by rw [hat k hk]; exact hcell k hk) hlt

/-! ### (*listReader).skipSpace -/
theorem bdrewN {B : Nat} {a w : World} (h : Below B a w) (n : Nat) : Below B a (w.drewN n) := h.trans ⟨rfl, rfl, rfl, Nat.le_refl _, fun _ _ => rfl⟩

theorem step_at {w wr : World} {R : Nat} {v u v0 : Value} (nq : Nat) (h0 : wr.cell? ⟨R, 0, none⟩ = some v0) (h1 : wr.cell? ⟨R, 1, none⟩ = some u) (hf : wr.frozen? ⟨R, 1, none⟩ = false) (hb : Below R w wr) :
    ((wr.drewN nq).setCell ⟨R, 1, none⟩ v).cell? ⟨R, 0, none⟩ = some v0 ∧ ((wr.drewN nq).setCell ⟨R, 1, none⟩ v).cell? ⟨R, 1, none⟩ = some v ∧ ((wr.drewN nq).setCell ⟨R, 1, none⟩ v).frozen? ⟨R, 1, none⟩ = false ∧ Below R w ((wr.drewN nq).setCell ⟨R, 1, none⟩ v) :=
  ⟨(World.cell?_setCell_other _ _ _ _ (by simp)).trans h0, World.cell?_setCell_same (wr.drewN nq) _ _ h1, by rw [World.frozen?_setCell]; exact hf, (bdrewN hb nq).setCell (Nat.le_refl _) _⟩

set_option maxHeartbeats 400000 in
theorem skipSpace_any (R g n cap i : Nat) (ao : Option Addr) (f : Nat → Int) (w : World) (hn : n ≤ 4611686018427387904) (hi : i ≤ 9223372036854775807) (hao : 0 < n → ao = some ⟨g, 0, none⟩) (hg : 0 < n → g < R) (hc : ∀ k, k < n → w.cell? ⟨g, k, none⟩ = some (.int .u8 (f k)))
    (h0 : w.cell? ⟨R, 0, none⟩ = some (.slice ao n cap)) (h1 : w.cell? ⟨R, 1, none⟩ = some (.int .i64 i)) (hf : w.frozen? ⟨R, 1, none⟩ = false) :
    Calls Try.prog 32 #[.pointer (some ⟨R, 0, none⟩)] w fun en w' => ∃ j : Nat, Skip f n i j ∧ en = .returned (.tuple #[]) ∧ w'.cell? ⟨R, 1, none⟩ = some (.int .i64 j) ∧ Below R w w' := by
  go_enter Try.func32, Try.ntmps32
  go_wp2_with fail
  go_loopw [2] (fun _ wr => ∃ j : Nat, Hid (Pre f n i j) ∧ wr.cell? ⟨R, 0, none⟩ = some (.slice ao n cap) ∧ wr.cell? ⟨R, 1, none⟩ = some (.int .i64 j) ∧ wr.frozen? ⟨R, 1, none⟩ = false ∧ Below R w wr) (fun _ wr => n - (intOf ((wr.cell? ⟨R, 1, none⟩).getD undef)).toNat)
  case atStart => exact ⟨i, Pre.refl _ _ _, h0, h1, hf, Below.refl _ _⟩
  case round =>
    clear h0 h1 hf
    obtain ⟨j, hp, h0, h1, hf, hb⟩ := hrel
    have hp1 := hp.out.1
    have hp2 : j ≤ n ∨ j ≤ i := by have := hp.out.2.1; omega
    by_cases hj : j < n
    · obtain rfl := hao (by omega)
      have hcell : wr.cell? ⟨g, j, none⟩ = some (.int .u8 (f j)) := (hb.cell (hg (by omega))).trans (hc j hj)
      clear hao hg hc
      by_cases hw : isWs (f j) = true
      · have hp' : Hid (Pre f n i (j + 1)) := hp.out.succ hj hw
        clear hp
        go_wp2_with fail
        go_quiet ((go_at_call 33; exact Calls.quiet_of_same (isSpace_any _ _)))
        go_wp2_with fail
        go_roundw
        case rel => exact ⟨j + 1, hp', (step_at nq h0 h1 hf hb).1, by rw [(step_at nq h0 h1 hf hb).2.1]; simp, (step_at nq h0 h1 hf hb).2.2.1, (step_at nq h0 h1 hf hb).2.2.2⟩
        case measure => rw [(step_at nq h0 h1 hf hb).2.1, h1]; simp [intOf]; omega
      · have hw' : isWs (f j) = false := by simpa using hw
        have hs : Hid (Skip f n i j) := hp.out.done (.inr hw')
        clear hp hw
        go_wp2_with fail
        go_quiet ((go_at_call 33; exact Calls.quiet_of_same (isSpace_any _ _)))
        go_wp2_with fail
        go_end0
        exact ⟨j, hs, rfl, h1, bdrewN hb _⟩
    · have hs : Hid (Skip f n i j) := hp.out.done (.inl (by omega))
      have hd : decide ((j : Int) < (n : Int)) = false := by simp; omega
      clear hp
      go_wp2_with fail
      go_quiet ((go_at_call 33; exact Calls.quiet_of_same (isSpace_any _ _)))
      go_wp2_with fail
      go_end0
      exact ⟨j, hs, rfl, h1, bdrewN hb _⟩

set_option maxHeartbeats 400000 in
theorem zzSkipSpace_any (g n cap i : Nat) (ao : Option Addr) (f : Nat → Int) (w : World) (hn : n ≤ 4611686018427387904) (hi : i ≤ 9223372036854775807) (hao : 0 < n → ao = some ⟨g, 0, none⟩) (hg : 0 < n → g < w.heap.size) (hc : ∀ k, k < n → w.cell? ⟨g, k, none⟩ = some (.int .u8 (f k))) :
    Calls Try.prog 22 #[.slice ao n cap, .int .i64 i] w fun en w' => ∃ j : Nat, Skip f n i j ∧ en = .returned (.int .i64 j) ∧ Below w.heap.size w w' := by
  go_enter Try.func22, Try.ntmps22
  go_wp2_with fail
  refine (skipSpace_any w.heap.size g n cap i ao f _ hn hi hao hg ?_ ?_ ?_ ?_).mono ?_
  · intro k hk
    exact (((Below.refl w.heap.size w).alloc (Nat.le_refl _) _).cell (p := ⟨g, k, none⟩) (hg (by omega))).trans (hc k hk)
  · simp
  · simp
  · simp
  rintro en w1 ⟨j, hs, rfl, h1, hb⟩
  have HS : Hid (Skip f n i j) := hs
  have HB : Hid (Below w.heap.size w w1) := ((Below.refl w.heap.size w).alloc (Nat.le_refl _) _).trans hb
  clear hs hb hc hao hg
  go_wp2_with fail
  go_ret
  exact ⟨j, HS.out, rfl, HB.out⟩

end Go.Proofs.Qxb6000571a.Skp
