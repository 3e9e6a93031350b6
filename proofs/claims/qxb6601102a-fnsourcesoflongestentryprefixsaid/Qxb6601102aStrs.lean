/-
  Contracts: zzCloneStrs_b1 (14), zzLookup_b1 (30).
-/
import Derived.Test.Qxb6601102aSizes
namespace Go.Proofs.Qxb6601102a.Strs
set_option linter.unusedVariables false
open Go.RowKit
open Go.Proofs.Qxb6601102a.Sizes

theorem info9 : (Try.prog.info? 9).map (fun i => (i.zero, i.size, i.bytes)) = some (some (.string ⟨#[]⟩), 1, 16) := by kernel_rfl

/-- The cells of a list of strings. -/
def S (L : List ByteArray) : List Value := L.map Value.string
def sAt (L : List ByteArray) (k : Nat) : ByteArray := L.getD k ByteArray.empty

/-- The call's own row at block g holds the strings L. -/
def Own (w : World) (base g cap : Nat) (L : List ByteArray) : Prop := w.ownsRow base 9 1 (.slice (some ⟨g, 0, none⟩) L.length cap) L.length (S L)

theorem Own.cell {w : World} {base g cap : Nat} {L : List ByteArray} (h : Own w base g cap L) (k : Nat) (hk : k < L.length) : w.cell? ⟨g, k, none⟩ = some (.string (sAt L k)) := by
  rw [World.ownsRow.cellAt h k (by omega)]
  simp [S, sAt, hk]

theorem Own.lt {w : World} {base g cap : Nat} {L : List ByteArray} (h : Own w base g cap L) : base ≤ g ∧ g < w.heap.size := World.ownsRow.lt h g rfl

theorem S_set (L : List ByteArray) (k : Nat) (x : ByteArray) : (S L).set k (.string x) = S (L.set k x) := by simp [S, List.map_set]

theorem at_set (Y : List ByteArray) (k j : Nat) (x : ByteArray) (hk : k < Y.length) : sAt (Y.set k x) j = if j = k then x else sAt Y j := by
  unfold sAt
  by_cases h : j = k
  · subst h; simp [hk]
  · have h' : ¬ k = j := fun e => h e.symm
    simp [h, h']

set_option maxHeartbeats 400000 in
theorem clone_core (b off n cap : Nat) (sf : Nat → ByteArray) (w : World) (hn : n ≤ 1048576) (hc : ∀ k, k < n → w.cell? ⟨b, off + k, none⟩ = some (.string (sf k))) (hb : b < w.heap.size) :
    Calls Try.prog 14 #[.slice (some ⟨b, off, none⟩) n cap] w fun en w' => ∃ L : List ByteArray, L.length = n ∧ (∀ j, j < n → sAt L j = sf j) ∧ en = .returned (.slice (some ⟨w.heap.size, 0, none⟩) n n) ∧ Own w' w.heap.size w.heap.size n L ∧ Below w.heap.size w w' := by
  obtain ⟨i0, hi, hz0, hz1, hz2⟩ := info_parts info9
  have hnil := fun wx => Lib.run_eql_slice_nil (P := Try.prog) wx 22 9 (some ⟨b, off, none⟩) n cap 0 0 Try.underlying22
  go_enter Try.func14, Try.ntmps14
  go_wp2_with (at_make; refine wpList_make_full _ rfl _ _ 22 rfl w.heap.size 9 i0 (.string ⟨#[]⟩) 1 Try.underlying22 hi hz0 hz1 _ _ _ _ n rfl rfl rfl rfl (by rw [hz2]; omega) (by unfold maxLen; omega) (Nat.le_refl _) ?_)
  intro wa hoa hga
  have hba : Below w.heap.size w wa := (Below.refl _ _).grown hga (Nat.le_refl _) (by intro q hq; cases hq)
  have hoa' : Own wa w.heap.size w.heap.size n (List.replicate n ⟨#[]⟩) := by
    unfold Own
    rw [List.length_replicate]
    rw [toList_madeCells_one] at hoa
    have e : S (List.replicate n ⟨#[]⟩) = List.replicate n (.string ⟨#[]⟩) := by simp [S]
    rw [e]
    exact hoa
  clear hoa hga
  go_wp2_with fail
  go_loopw [4] (fun x wr => ∃ (k : Nat) (Y : List ByteArray), k ≤ n ∧ x = .int .i64 k ∧ Own wr w.heap.size w.heap.size n Y ∧ Hid (Y.length = n) ∧ Hid (∀ j, j < k → sAt Y j = sf j) ∧ Below w.heap.size w wr) (fun x _ => n - (intOf x).toNat)
  case atStart => exact ⟨0, _, Nat.zero_le _, rfl, hoa', List.length_replicate, fun j hj => absurd hj (by omega), hba⟩
  case round =>
    clear hoa' hba
    obtain ⟨k, Y, hk, rfl, ho, HY, Hat, hbl⟩ := hrel
    by_cases hlt : k < n
    · have hsrc : wr.cell? ⟨b, off + k, none⟩ = some (.string (sf k)) := (hbl.cell hb).trans (hc k hlt)
      have hky : k < Y.length := by rw [HY.out]; exact hlt
      have hdst := ho.cell k hky
      have hfr := World.ownsRow.frozenAt ho k
      have HR : Hid (Own (wr.setCell ⟨w.heap.size, k, none⟩ (.string (sf k))) w.heap.size w.heap.size n (Y.set k (sf k))) := by
        have := (World.ownsRow.stored ho k (.string (sf k))).1
        show Own _ _ _ _ _
        unfold Own
        rw [List.length_set, ← S_set]
        exact this
      have HB : Hid (Below w.heap.size w (wr.setCell ⟨w.heap.size, k, none⟩ (.string (sf k)))) := hbl.setCell (Nat.le_refl _) _
      have Hat' : Hid (∀ j, j < k + 1 → sAt (Y.set k (sf k)) j = sf j) := by
        intro j hj
        rw [at_set Y k j _ hky]
        split
        · rename_i h; rw [h]
        · exact Hat.out j (by omega)
      clear ho Hat hky
      go_wp2_with fail
      go_roundw
      case rel => exact ⟨k + 1, Y.set k (sf k), hlt, by go_num, HR.out, by rw [List.length_set]; exact HY.out, Hat'.out, HB.out⟩
      case measure => simp [intOf]; omega
    · have Hat' : Hid (∀ j, j < n → sAt Y j = sf j) := fun j hj => Hat.out j (by omega)
      clear Hat
      go_wp2_with fail
      go_ret
      exact ⟨Y, HY.out, Hat'.out, rfl, ho, hbl⟩

set_option maxHeartbeats 400000 in
theorem clone_empty (a : Addr) (cap : Nat) (w : World) :
    Calls Try.prog 14 #[.slice (some a) 0 cap] w fun en w' => en = .returned (.slice (some ⟨w.heap.size, 0, none⟩) 0 0) ∧ Below w.heap.size w w' := by
  obtain ⟨i0, hi, hz0, hz1, hz2⟩ := info_parts info9
  have hnil := fun wx => Lib.run_eql_slice_nil (P := Try.prog) wx 22 9 (some a) 0 cap 0 0 Try.underlying22
  go_enter Try.func14, Try.ntmps14
  go_wp2_with (at_make; refine wpList_make_full _ rfl _ _ 22 rfl w.heap.size 9 i0 (.string ⟨#[]⟩) 1 Try.underlying22 hi hz0 hz1 _ _ _ _ 0 rfl rfl rfl rfl (by omega) (by unfold maxLen; omega) (Nat.le_refl _) ?_)
  intro wa hoa hga
  have hba : Below w.heap.size w wa := (Below.refl _ _).grown hga (Nat.le_refl _) (by intro q hq; cases hq)
  clear hoa hga
  go_wp2_with fail
  refine wp_loop_rounds 1 ?_
  rw [rounds_succ]
  go_wp2_with fail
  go_ret
  exact ⟨rfl, hba⟩

set_option maxHeartbeats 400000 in
theorem clone_nil (w : World) :
    Calls Try.prog 14 #[.slice none 0 0] w fun en w' => en = .returned (.slice none 0 0) ∧ w' = w := by
  have hnil := fun wx => Lib.run_eql_slice_nil (P := Try.prog) wx 22 9 none 0 0 0 0 Try.underlying22
  go_enter Try.func14, Try.ntmps14
  go_wp2_with fail
  go_ret
  exact ⟨rfl, rfl⟩

/-- The copy, whatever came in: a slice of the same strings. -/
theorem clone_any (a : Option Addr) (n cap : Nat) (sf : Nat → ByteArray) (w : World) (hn : n ≤ 1048576) (hS : Sl w a n sf) (hnone : a = none → n = 0 ∧ cap = 0) :
    Calls Try.prog 14 #[.slice a n cap] w fun en w' => ∃ a' c', en = .returned (.slice a' n c') ∧ Sl w' a' n sf ∧ Below w.heap.size w w' := by
  by_cases h0 : n = 0
  · subst h0
    cases a with
    | none =>
      obtain ⟨_, rfl⟩ := hnone rfl
      refine (clone_nil w).mono ?_
      rintro en w' ⟨rfl, rfl⟩
      exact ⟨none, 0, rfl, fun h => absurd h (by omega), Below.refl _ _⟩
    | some x =>
      refine (clone_empty x cap w).mono ?_
      rintro en w' ⟨rfl, hb⟩
      exact ⟨_, _, rfl, fun h => absurd h (by omega), hb⟩
  · obtain ⟨b, off, rfl, hb, hc⟩ := hS (by omega)
    refine (clone_core b off n cap sf w hn hc hb).mono ?_
    rintro en w' ⟨L, hL, hat, rfl, ho, hbl⟩
    refine ⟨_, _, rfl, fun _ => ⟨w.heap.size, 0, rfl, ho.lt.2, fun k hk => ?_⟩, hbl⟩
    rw [Nat.zero_add, ho.cell k (by omega), hat k hk]

theorem Sl.below {w w' : World} {a : Option Addr} {n : Nat} {sf : Nat → ByteArray} (h : Sl w a n sf) (hb : Below w.heap.size w w') : Sl w' a n sf := by
  intro hn
  obtain ⟨b, off, e, hlt, hc⟩ := h hn
  exact ⟨b, off, e, Nat.lt_of_lt_of_le hlt hb.size, fun k hk => (hb.cell (p := ⟨b, off + k, none⟩) hlt).trans (hc k hk)⟩

end Go.Proofs.Qxb6601102a.Strs
