/-
  Contracts: stringEnd (26), ZZStringEnd (12), tokB1AppendStr (11).
-/
import Derived.Test.Qxb6000571aProg
import Derived.Test.Qxb6000571aPlain
import Derived.WalkKit
namespace Go.Proofs.Qxb6000571a.Str
set_option linter.unusedVariables false
open Go.RowKit
open Go.Proofs.Qxb6000571a.Plain

theorem ret_int {k : IntKind} {a b : Int} (h : a = b) : Ending.returned (.int k a) = .returned (.int k b) := by rw [h]

set_option maxHeartbeats 400000 in
theorem stringEnd_any (g n cap i e : Nat) (f : Nat → Int) (w : World) (hn : n ≤ 4611686018427387904) (hc : ∀ k, k < n → w.cell? ⟨g, k, none⟩ = some (.int .u8 (f k))) (h : SE f n (i + 1) e) :
    Calls Try.prog 26 #[.slice (some ⟨g, 0, none⟩) n cap, .int .i64 i] w fun en w' => en = .returned (.int .i64 e) ∧ w' = w := by
  have hl := h.lt
  have H : Hid (SE f n (i + 1) e) := h
  clear h
  go_enter Try.func26, Try.ntmps26
  go_wp2
  go_loop [1] (fun x => ∃ j : Nat, Hid (SE f n j e) ∧ j < n ∧ x = .int .i64 j) (fun x => n - (intOf x).toNat)
  case atStart => exact ⟨i + 1, H, by omega, by go_num⟩
  case round =>
    obtain ⟨j, hj, hjn, rfl⟩ := hrel
    have hcell := hc j hjn
    clear H
    by_cases hq : f j = 34
    · have he := hj.out.quote_inv hq
      have hq' : (f j != 34) = false := by simp [hq]
      clear hq
      go_wp2
      go_ret
      exact ⟨ret_int (by omega), rfl⟩
    · by_cases hb : f j = 92
      · have hs := hj.out.esc_inv hb
        have hl2 := hs.lt
        have Hs : Hid (SE f n (j + 2) e) := hs
        have hq' : (f j != 34) = true := by simp [hq]
        have hb' : (f j == 92) = true := by simp [hb]
        clear hq hb hs hj
        go_wp2
        go_round
        case rel => exact ⟨j + 2, Hs, by omega, by go_num⟩
        case measure => simp [intOf]; omega
      · have hs := hj.out.one_inv hq hb
        have hl2 := hs.lt
        have Hs : Hid (SE f n (j + 1) e) := hs
        have hq' : (f j != 34) = true := by simp [hq]
        have hb' : (f j == 92) = false := by simp [hb]
        clear hq hb hs hj
        go_wp2
        go_round
        case rel => exact ⟨j + 1, Hs, by omega, by go_num⟩
        case measure => simp [intOf]; omega

theorem zzStringEnd_any (g n cap i e : Nat) (f : Nat → Int) (w : World) (hn : n ≤ 4611686018427387904) (hc : ∀ k, k < n → w.cell? ⟨g, k, none⟩ = some (.int .u8 (f k))) (h : SE f n (i + 1) e) :
    Calls Try.prog 12 #[.slice (some ⟨g, 0, none⟩) n cap, .int .i64 i] w fun en w' => en = .returned (.int .i64 e) ∧ w' = w := by
  go_enter Try.func12, Try.ntmps12
  go_wp2_with fail
  refine (stringEnd_any g n cap i e f _ hn hc h).mono ?_
  rintro en w' ⟨rfl, rfl⟩
  go_wp2_with fail
  go_ret
  exact ⟨rfl, rfl⟩

/-! ### append -/
theorem info5 : (Try.prog.info? 5).map (fun i => (i.zero, i.size, i.bytes)) = some (some (.int .u8 0), 1, 1) := by kernel_rfl

/-- The cells of a list of bytes. -/
def B (L : List Int) : List Value := L.map (Value.int .u8)
theorem B_append (L M : List Int) : B (L ++ M) = B L ++ B M := by simp [B]
theorem B_length (L : List Int) : (B L).length = L.length := by simp [B]

/-- The bytes of a string. -/
def bs (s : ByteArray) : List Int := s.data.toList.map fun c => (c.toNat : Int)
theorem bs_length (s : ByteArray) : (bs s).length = s.size := by unfold bs; rw [List.length_map]; rfl
theorem bs_take_succ (s : ByteArray) (k : Nat) (h : k < s.size) : (bs s).take (k + 1) = (bs s).take k ++ [(s[k].toNat : Int)] := by
  rw [List.take_succ_eq_append_getElem (by rw [bs_length]; exact h)]
  simp [bs]; rfl
theorem len_take (L : List Int) (s : ByteArray) (k : Nat) (h : k ≤ s.size) : (L ++ (bs s).take k).length = L.length + k := by
  rw [List.length_append, List.length_take, bs_length, Nat.min_eq_left h]

/-- The call's own row at block g holds the bytes L. -/
def Own (w : World) (base g cap : Nat) (L : List Int) : Prop := w.ownsRow base 5 1 (.slice (some ⟨g, 0, none⟩) L.length cap) L.length (B L)

theorem Own.cell {w : World} {base g cap : Nat} {L : List Int} (h : Own w base g cap L) (k : Nat) (hk : k < L.length) : w.cell? ⟨g, k, none⟩ = some (.int .u8 (at' L k)) := by
  rw [World.ownsRow.cellAt h k (by omega)]
  simp [B, at', hk]

theorem Own.lt {w : World} {base g cap : Nat} {L : List Int} (h : Own w base g cap L) : base ≤ g ∧ g < w.heap.size := World.ownsRow.lt h g rfl

theorem cell_new (w : World) (v : Value) (t : TypeId) : ∀ j u, [v][j]? = some u → (w.alloc (.cells #[v] t)).cell? ((⟨w.heap.size, 0, none⟩ : Addr).add j) = some u := by
  intro j u hj
  match j, hj with
  | 0, hj => simp at hj; subst hj; simp [Addr.add]

set_option maxHeartbeats 400000 in
theorem appendStr_core (base g cap : Nat) (s : ByteArray) (L : List Int) (w : World) (hs : s.size ≤ 1048576) (hcap : L.length + s.size ≤ cap) (hown : Own w base g cap L) :
    Calls Try.prog 11 #[.slice (some ⟨g, 0, none⟩) L.length cap, .string s] w fun en w' => en = .returned (.slice (some ⟨g, 0, none⟩) (L.length + s.size) cap) ∧ Own w' base g cap (L ++ bs s) ∧ Below base w w' := by
  obtain ⟨i0, hi, hz0, hz1, hz2⟩ := info_parts info5
  have hlt := hown.lt
  go_enter Try.func11, Try.ntmps11
  go_wp2
  go_loopw [0, 5] (fun d x wr => ∃ k : Nat, k ≤ s.size ∧ x = .int .i64 k ∧ d = .slice (some ⟨g, 0, none⟩) (L.length + k) cap ∧ Own wr base g cap (L ++ (bs s).take k) ∧ Below base w wr) (fun _ x _ => s.size - (intOf x).toNat)
  case atStart => exact ⟨0, Nat.zero_le _, rfl, rfl, by simpa using hown, Below.refl _ _⟩
  case round =>
    obtain ⟨k, hk, rfl, rfl, ho, hb⟩ := hrel
    by_cases hlt2 : k < s.size
    · have ho' : wr.ownsRow base 5 1 (.slice (some ⟨g, 0, none⟩) (L.length + k) cap) (L.length + k) (B (L ++ (bs s).take k)) := by
        have := ho
        unfold Own at this
        rwa [len_take L s k hk] at this
      have HO : Hid (wr.ownsRow base 5 1 (.slice (some ⟨g, 0, none⟩) (L.length + k) cap) (L.length + k) (B (L ++ (bs s).take k))) := ho'
      have hsz := hb.size
      clear ho' ho hown
      go_wp2_with (at_builtin; refine wpList_append_fits _ rfl _ _ 23 rfl base 5 i0 1 Try.underlying23 hi hz1 g (L.length + k) cap _ rfl (World.ownsRow.alloc HO.out _) ⟨wr.heap.size, 0, none⟩ 1 1 [.int .u8 (s[k].toNat : Int)] rfl rfl (cell_new _ _ _) (by simp [Value.oneCell']) (by omega) ?_)
      intro w1 ho1 hg1
      have R : Own w1 base g cap (L ++ (bs s).take (k + 1)) ∧ Below base w w1 := by
        refine ⟨?_, (hb.alloc (by omega) _).grown hg1 (by simp; omega) (by intro q hq; simp at hq; omega)⟩
        unfold Own
        rw [len_take L s (k + 1) hlt2, bs_take_succ s k hlt2, ← List.append_assoc, B_append]
        exact ho1
      clear ho1 hg1 HO
      go_wp2
      go_roundw
      case rel => exact ⟨k + 1, hlt2, by go_num, rfl, R.1, R.2⟩
      case measure => simp [intOf]; omega
    · obtain rfl : k = s.size := by omega
      have R : Own wr base g cap (L ++ bs s) := by
        rw [List.take_of_length_le (by rw [bs_length]; omega)] at ho
        exact ho
      clear ho hown
      go_wp2
      go_ret
      exact ⟨rfl, R, hb⟩

theorem Own.row {w : World} {base g cap : Nat} {L : List Int} (h : Own w base g cap L) {m : Nat} (hm : L.length = m) : w.ownsRow base 5 1 (.slice (some ⟨g, 0, none⟩) m cap) m (B L) := by
  subst hm; exact h

theorem Own.push {w : World} {base g cap m : Nat} {L : List Int} {x : Int} (h : w.ownsRow base 5 1 (.slice (some ⟨g, 0, none⟩) (m + 1) cap) (m + 1) (B L ++ [.int .u8 x])) (hm : L.length = m) : Own w base g cap (L ++ [x]) := by
  subst hm
  unfold Own
  rw [B_append, List.length_append]
  exact h

theorem appendStr_any (base g cap m : Nat) (s : ByteArray) (L : List Int) (w : World) (hs : s.size ≤ 1048576) (hm : L.length = m) (hcap : m + s.size ≤ cap) (hown : Own w base g cap L) :
    Calls Try.prog 11 #[.slice (some ⟨g, 0, none⟩) m cap, .string s] w fun en w' => en = .returned (.slice (some ⟨g, 0, none⟩) (m + s.size) cap) ∧ Own w' base g cap (L ++ bs s) ∧ Below base w w' := by
  subst hm
  exact appendStr_core base g cap s L w hs hcap hown

end Go.Proofs.Qxb6000571a.Str
