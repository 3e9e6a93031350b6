/-
  The map of the law: what it reads as after k stores; 'v, ok := m[key]' at the operation; (sources).of (37), ZZSourcesOfB1 (29).
-/
import Derived.Test.Qxb6601102aLook
import Derived.Maps.OwnSet
import Derived.Maps.OwnOps
import Derived.Maps.StringElems
import Derived.Maps.Views
import Derived.StringKeys
namespace Go.Proofs.Qxb6601102a.Mp
set_option linter.unusedVariables false
open Go.RowKit
open Go.Maps (Keyed string_keyed)
open Go.WideMaps (keyOf_string_mk)
open Go.Proofs.Qxb6601102a.Sizes Go.Proofs.Qxb6601102a.Strs Go.Proofs.Qxb6601102a.Look

theorem law : Keyed Try.prog 9 := string_keyed Try.underlying9
theorem zeroE (w : World) : (zeroValue 9).run Try.prog w = .ok (.string ⟨#[]⟩) w := by kernel_rfl

/-- Block b is a map of at most n entries that reads as the first k pairs do, the last pair with a key winning. -/
def MapIs (w : World) (b n : Nat) (kf vf : Nat → ByteArray) (k : Nat) : Prop :=
  ∃ D : DataW Unit, w.ownsMap Try.prog 9 (plainElem Try.prog 9) b n D ∧ Maps.IsMap D ∧
    ∀ s : ByteArray, Maps.has D (.string s.data.toList) = (lk kf vf s k).isSome ∧ D.atKey (.string s.data.toList) (.lit (.string [])) = .lit (.string ((lk kf vf s k).getD ⟨#[]⟩).data.toList)

theorem bytes_eq {a b : ByteArray} (h : a.data.toList = b.data.toList) : a = b := by
  cases a; cases b
  simp only [ByteArray.mk.injEq]
  exact Array.toList_inj.1 h

theorem MapIs.made (w : World) (kf vf : Nat → ByteArray) : MapIs (w.alloc (.map #[] 0)) w.heap.size 0 kf vf 0 :=
  ⟨.map [], World.ownsMap_made _ _ _ _, Maps.isMap_empty, fun s => ⟨rfl, rfl⟩⟩

theorem MapIs.lt {w : World} {b n k : Nat} {kf vf : Nat → ByteArray} (h : MapIs w b n kf vf k) : b < w.heap.size := by
  obtain ⟨D, hD, _⟩ := h
  exact hD.lt

theorem isKey (s : ByteArray) : WideAt.IsKeyLit (.string s.data.toList) := trivial

/-- One store more. -/
theorem put_is {D : DataW Unit} {kf vf : Nat → ByteArray} {k : Nat} (hm : Maps.IsMap D)
    (hD : ∀ s : ByteArray, Maps.has D (.string s.data.toList) = (lk kf vf s k).isSome ∧ D.atKey (.string s.data.toList) (.lit (.string [])) = .lit (.string ((lk kf vf s k).getD ⟨#[]⟩).data.toList)) :
    ∀ s : ByteArray, Maps.has (D.put (.string (kf k).data.toList) (.lit (.string (vf k).data.toList))) (.string s.data.toList) = (lk kf vf s (k + 1)).isSome ∧
      (D.put (.string (kf k).data.toList) (.lit (.string (vf k).data.toList))).atKey (.string s.data.toList) (.lit (.string [])) = .lit (.string ((lk kf vf s (k + 1)).getD ⟨#[]⟩).data.toList) := by
  intro s
  by_cases h : kf k = s
  · subst h
    rw [lk_hit rfl, Maps.has_put_same hm (isKey _), Maps.atKey_put_same hm (isKey _)]
    exact ⟨rfl, rfl⟩
  · rw [lk_miss h]
    have hne : (Lit.string s.data.toList) ≠ (Lit.string (kf k).data.toList) := by
      intro e
      simp only [Lit.string.injEq] at e
      exact h (bytes_eq e).symm
    rw [Maps.has_put_other hne, Maps.atKey_put_other hne]
    exact hD s

/-- 'v, ok := m[key]' at the operation. -/
theorem wpList_look (w : World) {ops : Array Oper} {rest : List Oper} {o : Oper} {a : Act} {Q : Exit → Act → World → Prop}
    (hg : o.guard = none) (m x : Operand) (t : TypeId) (hop : o.op = Op.lookup t m x true) (ht : Try.prog.underlying t = some (.map 9 9)) (b n k : Nat) (kf vf : Nat → ByteArray)
    (hm : a.eval m = .map (some b)) (hM : MapIs w b n kf vf k) (s : ByteArray) (hx : a.eval x = .string s) (hs : s.size ≤ maxLen)
    (hK : wpList Try.prog ops Q rest (a.put o.dst (.tuple #[.string ((lk kf vf s k).getD ⟨#[]⟩), .bool (lk kf vf s k).isSome])) w) :
    wpList Try.prog ops Q (o :: rest) a w := by
  obtain ⟨D, hown, _, hD⟩ := hM
  refine wpList_lookup_own_ok w hg m x t hop 9 9 law ht (plainElem Try.prog 9) (zeroE w) (.lit (.string [])) [] (plainElem_string (s := ⟨#[]⟩) Try.underlying9 (by unfold maxLen; show 0 ≤ _; omega)) b n D hm hown _ (.string s.data.toList) hx (keyOf_string_mk Try.underlying9 hs) (fun v ps hv => ?_)
  obtain ⟨sv, rfl, hz, _⟩ := plainElem_string_inv Try.underlying9 hv
  have h1 := congrArg Prod.fst hz
  simp only at h1
  rw [(hD s).2] at h1
  simp only [DataW.lit.injEq, Lit.string.injEq] at h1
  have h2 := bytes_eq h1
  rw [← h2, (hD s).1]
  exact hK

/-! ### The law's own scan, and what 'of' answers -/
def bAt (s : ByteArray) (j : Nat) : Int := if h : j < s.size then (s[j].toNat : Int) else 0
theorem bAt_eq (s : ByteArray) (j : Nat) (h : j < s.size) : bAt s j = (s[j].toNat : Int) := by unfold bAt; rw [dif_pos h]

def want (lf : ByteArray → Option ByteArray) (file pt fb : ByteArray) : Nat → ByteArray
  | 0 => fb
  | j + 1 => if j + 1 = pt.size ∨ bAt pt (j + 1) = 47 then (lf (file ++ pt.extract 0 (j + 1))).getD (want lf file pt fb j) else want lf file pt fb j

theorem want_yes {lf : ByteArray → Option ByteArray} {file pt fb : ByteArray} {j : Nat} (h : j + 1 = pt.size ∨ bAt pt (j + 1) = 47) : want lf file pt fb (j + 1) = (lf (file ++ pt.extract 0 (j + 1))).getD (want lf file pt fb j) := by
  simp only [want]; rw [if_pos h]
theorem want_no {lf : ByteArray → Option ByteArray} {file pt fb : ByteArray} {j : Nat} (h : ¬ (j + 1 = pt.size ∨ bAt pt (j + 1) = 47)) : want lf file pt fb (j + 1) = want lf file pt fb j := by
  simp only [want]; rw [if_neg h]

theorem want_skip {lf : ByteArray → Option ByteArray} {file pt fb : ByteArray} (r : Nat) : ∀ (m : Nat), r + m < pt.size → (∀ j, r < j → j ≤ r + m → bAt pt j ≠ 47) → want lf file pt fb (r + m) = want lf file pt fb r := by
  intro m
  induction m with
  | zero => intro _ _; rfl
  | succ m ih =>
    intro h1 h2
    rw [show r + (m + 1) = (r + m) + 1 by omega, want_no (by
      intro h
      rcases h with h | h
      · omega
      · exact h2 (r + m + 1) (by omega) (by omega) h)]
    exact ih (by omega) (fun j a b => h2 j a (by omega))

/-- A cut of the text at k, its slashes. -/
theorem cut_size (pt : ByteArray) (k : Nat) (h : k ≤ pt.size) : (pt.extract 0 k).size = k := by simp [ByteArray.size_extract]; omega
theorem cut_cut (pt : ByteArray) (k r : Nat) (h : r ≤ k) : (pt.extract 0 k).extract 0 r = pt.extract 0 r := by
  apply ByteArray.ext
  simp [ByteArray.data_extract]
  rw [Nat.min_eq_left h]
theorem cut_get (pt : ByteArray) (k j : Nat) (hj : j < (pt.extract 0 k).size) (hj' : j < pt.size) : (pt.extract 0 k)[j] = pt[j] := by
  simp [ByteArray.getElem_extract]

end Go.Proofs.Qxb6601102a.Mp
