/-
  The plain mathematics of the seat: no Go in sight. Steps of a scan, iterated; where a string ends; the scan by depth; the elements of an array.
  A text is a function 'f' (the byte at a place) and a length 'n'.
-/
namespace Go.Proofs.Qxb6000571a.Plain

/-- k steps by R. -/
def iter {α : Type} (R : α → α → Prop) : Nat → α → α → Prop
  | 0, s, u => s = u
  | k + 1, s, u => ∃ t, R s t ∧ iter R k t u

/-- From s one comes to u in some number of steps. -/
def Rc {α : Type} (R : α → α → Prop) (s u : α) : Prop := ∃ k, iter R k s u

theorem Rc.refl {α : Type} (R : α → α → Prop) (s : α) : Rc R s s := ⟨0, rfl⟩

theorem Rc.head {α : Type} {R : α → α → Prop} {s t u : α} (h : R s t) (r : Rc R t u) : Rc R s u := by
  obtain ⟨k, hk⟩ := r
  exact ⟨k + 1, t, h, hk⟩

theorem iter_trans {α : Type} {R : α → α → Prop} : ∀ (a : Nat) {b : Nat} {s t u : α}, iter R a s t → iter R b t u → iter R (a + b) s u := by
  intro a
  induction a with
  | zero => intro b s t u h1 h2; simp only [iter] at h1; subst h1; simpa using h2
  | succ a ih =>
    intro b s t u h1 h2
    rw [show a + 1 + b = (a + b) + 1 by omega]
    obtain ⟨x, hx, h1⟩ := h1
    exact ⟨x, hx, ih h1 h2⟩

theorem Rc.trans {α : Type} {R : α → α → Prop} {s t u : α} (h : Rc R s t) (r : Rc R t u) : Rc R s u := by
  obtain ⟨a, ha⟩ := h
  obtain ⟨b, hb⟩ := r
  exact ⟨a + b, iter_trans a ha hb⟩

theorem Rc.tail {α : Type} {R : α → α → Prop} {s t u : α} (h : Rc R s t) (r : R t u) : Rc R s u :=
  h.trans (Rc.head r (Rc.refl _ _))

/-- Either one stands at the end, or there is a first step. -/
theorem Rc.cases {α : Type} {R : α → α → Prop} {s u : α} (h : Rc R s u) : s = u ∨ ∃ t, R s t ∧ Rc R t u := by
  obtain ⟨k, hk⟩ := h
  cases k with
  | zero => exact .inl hk
  | succ k =>
    obtain ⟨t, ht, hk⟩ := hk
    exact .inr ⟨t, ht, k, hk⟩

/-- What each step keeps the whole keeps. -/
theorem Rc.keep {α : Type} {R : α → α → Prop} (p : α → α → Prop) (p0 : ∀ s, p s s) (p1 : ∀ s t u, R s t → p t u → p s u) {s u : α} (h : Rc R s u) : p s u := by
  obtain ⟨k, hk⟩ := h
  induction k generalizing s with
  | zero => simp only [iter] at hk; subst hk; exact p0 _
  | succ k ih => obtain ⟨t, ht, hk⟩ := hk; exact p1 _ _ _ ht (ih hk)

/-! ### Where a string ends -/
/-- One step inside a string: over an escape, or over one byte; none at a quote and behind the end. -/
def SStep (f : Nat → Int) (n : Nat) (j t : Nat) : Prop := j < n ∧ f j ≠ 34 ∧ ((f j = 92 ∧ t = j + 2) ∨ (f j ≠ 92 ∧ t = j + 1))

/-- From j (inside a string) the string ends just ahead of e. -/
def SE (f : Nat → Int) (n : Nat) (j e : Nat) : Prop := ∃ q, Rc (SStep f n) j q ∧ q < n ∧ f q = 34 ∧ e = q + 1

theorem srun_le {f : Nat → Int} {n j q : Nat} (h : Rc (SStep f n) j q) : j ≤ q :=
  h.keep (fun a b => a ≤ b) (fun _ => Nat.le_refl _) (fun s t u h1 h2 => by unfold SStep at h1; omega)

theorem SE.lt {f : Nat → Int} {n j e : Nat} (h : SE f n j e) : j < e ∧ e ≤ n ∧ j < n := by
  obtain ⟨q, hk, h1, _, rfl⟩ := h
  have := srun_le hk
  omega

theorem SE.quote {f : Nat → Int} {n j : Nat} (h : j < n) (hq : f j = 34) : SE f n j (j + 1) := ⟨j, Rc.refl _ _, h, hq, rfl⟩

theorem SE.esc {f : Nat → Int} {n j e : Nat} (h : j < n) (hb : f j = 92) (r : SE f n (j + 2) e) : SE f n j e := by
  obtain ⟨q, hr, h1, h2, rfl⟩ := r
  exact ⟨q, Rc.head ⟨h, by omega, .inl ⟨hb, rfl⟩⟩ hr, h1, h2, rfl⟩

theorem SE.one {f : Nat → Int} {n j e : Nat} (h : j < n) (hq : f j ≠ 34) (hb : f j ≠ 92) (r : SE f n (j + 1) e) : SE f n j e := by
  obtain ⟨q, hr, h1, h2, rfl⟩ := r
  exact ⟨q, Rc.head ⟨h, hq, .inr ⟨hb, rfl⟩⟩ hr, h1, h2, rfl⟩

/-- The three ways of a round. -/
theorem SE.quote_inv {f : Nat → Int} {n j e : Nat} (h : SE f n j e) (hq : f j = 34) : e = j + 1 := by
  obtain ⟨q, hr, h1, h2, rfl⟩ := h
  rcases hr.cases with rfl | ⟨t, ht, _⟩
  · rfl
  · exact absurd hq ht.2.1

theorem SE.esc_inv {f : Nat → Int} {n j e : Nat} (h : SE f n j e) (hb : f j = 92) : SE f n (j + 2) e := by
  obtain ⟨q, hr, h1, h2, rfl⟩ := h
  rcases hr.cases with rfl | ⟨t, ⟨_, _, ht⟩, hr'⟩
  · omega
  · rcases ht with ⟨_, rfl⟩ | ⟨h, _⟩
    · exact ⟨q, hr', h1, h2, rfl⟩
    · exact absurd hb h

theorem SE.one_inv {f : Nat → Int} {n j e : Nat} (h : SE f n j e) (hq : f j ≠ 34) (hb : f j ≠ 92) : SE f n (j + 1) e := by
  obtain ⟨q, hr, h1, h2, rfl⟩ := h
  rcases hr.cases with rfl | ⟨t, ⟨_, _, ht⟩, hr'⟩
  · exact absurd h2 hq
  · rcases ht with ⟨h, _⟩ | ⟨_, rfl⟩
    · exact absurd h hb
    · exact ⟨q, hr', h1, h2, rfl⟩

theorem SE.uniq {f : Nat → Int} {n : Nat} : ∀ (m : Nat) {j a b : Nat}, n - j ≤ m → SE f n j a → SE f n j b → a = b := by
  intro m
  induction m with
  | zero => intro j a b hm h1 h2; have := h1.lt; omega
  | succ m ih =>
    intro j a b hm h1 h2
    have hl := h1.lt
    by_cases hq : f j = 34
    · rw [h1.quote_inv hq, h2.quote_inv hq]
    · by_cases hb : f j = 92
      · exact ih (j := j + 2) (by omega) (h1.esc_inv hb) (h2.esc_inv hb)
      · exact ih (j := j + 1) (by omega) (h1.one_inv hq hb) (h2.one_inv hq hb)

/-! ### Law 1: an encoded content -/
/-- The text of a list. -/
def at' (L : List Int) : Nat → Int := fun k => L.getD k 0

def enc (C : List Int) : List Int := C.flatMap fun c => if c = 34 ∨ c = 92 then [92, c] else [c]

theorem enc_append (A B : List Int) : enc (A ++ B) = enc A ++ enc B := by simp [enc]

theorem at'_mid (P R : List Int) (x : Int) : at' (P ++ x :: R) P.length = x := by simp [at']
theorem at'_mid1 (P R : List Int) (x y : Int) : at' (P ++ x :: y :: R) (P.length + 1) = y := by
  simp [at']

theorem enc_close (S : List Int) : ∀ (C P : List Int), SE (at' (P ++ (enc C ++ 34 :: S))) (P ++ (enc C ++ 34 :: S)).length P.length (P.length + (enc C).length + 1) := by
  intro C
  induction C with
  | nil =>
    intro P
    exact SE.quote (by simp [enc]) (by simp [enc, at'_mid])
  | cons c C ih =>
    intro P
    by_cases hc : c = 34 ∨ c = 92
    · have e : enc (c :: C) = 92 :: c :: enc C := by simp [enc, hc]
      have := ih (P ++ [92, c])
      rw [e]
      have eP : P ++ [92, c] ++ (enc C ++ 34 :: S) = P ++ (92 :: c :: enc C ++ 34 :: S) := by simp
      rw [eP] at this
      refine SE.esc (by simp) (by simp [at'_mid]) ?_
      have el : (P ++ [92, c]).length = P.length + 2 := by simp
      rw [el] at this
      have e2 : P.length + 2 + (enc C).length + 1 = P.length + (92 :: c :: enc C).length + 1 := by simp; omega
      rw [e2] at this
      exact this
    · have e : enc (c :: C) = c :: enc C := by simp [enc, hc]
      have := ih (P ++ [c])
      rw [e]
      have eP : P ++ [c] ++ (enc C ++ 34 :: S) = P ++ (c :: enc C ++ 34 :: S) := by simp
      rw [eP] at this
      refine SE.one (by simp) (by simp [at'_mid]; omega) (by simp [at'_mid]; omega) ?_
      have el : (P ++ [c]).length = P.length + 1 := by simp
      rw [el] at this
      have e2 : P.length + 1 + (enc C).length + 1 = P.length + (c :: enc C).length + 1 := by simp; omega
      rw [e2] at this
      exact this

/-! ### Law 2: a body without a quote, an even run of backslashes at its end -/
/-- f over [a, b) holds no quote; the run [b - r, b) of backslashes is of even length, and either it is all or what stands ahead of it is no backslash; a quote stands at b. -/
theorem even_close {f : Nat → Int} {n a b r : Nat} (hbn : b < n) (hq : f b = 34) (hr : a + r ≤ b) (hno : ∀ k, a ≤ k → k < b → f k ≠ 34)
    (hrun : ∀ k, b ≤ k + r → k < b → f k = 92) (hstop : a + r = b ∨ f (b - r - 1) ≠ 92) (heven : r % 2 = 0) : SE f n a (b + 1) := by
  have tailRun : ∀ (m : Nat) (j : Nat), b - j ≤ m → b ≤ j + r → j ≤ b → (b - j) % 2 = 0 → SE f n j (b + 1) := by
    intro m
    induction m with
    | zero =>
      intro j h1 h2 h3 h4
      have : j = b := by omega
      subst this
      exact SE.quote hbn hq
    | succ m ih =>
      intro j h1 h2 h3 h4
      by_cases hj : j = b
      · subst hj; exact SE.quote hbn hq
      · exact SE.esc (by omega) (hrun j h2 (by omega)) (ih (j + 2) (by omega) (by omega) (by omega) (by omega))
  have front : ∀ (m : Nat) (j : Nat), b - r - j ≤ m → a ≤ j → j + r ≤ b → SE f n j (b + 1) := by
    intro m
    induction m with
    | zero =>
      intro j h1 h2 h3
      exact tailRun _ j (Nat.le_refl _) (by omega) (by omega) (by omega)
    | succ m ih =>
      intro j h1 h2 h3
      by_cases hj : j + r = b
      · exact tailRun _ j (Nat.le_refl _) (by omega) (by omega) (by omega)
      · by_cases hb : f j = 92
        · refine SE.esc (by omega) hb (ih (j + 2) (by omega) (by omega) ?_)
          by_cases hl : j + r + 1 = b
          · exfalso
            rcases hstop with hs | hs
            · omega
            · exact hs (by rw [show b - r - 1 = j by omega]; exact hb)
          · omega
        · exact SE.one (by omega) (hno j h2 (by omega)) hb (ih (j + 1) (by omega) (by omega) (by omega))
  exact front _ a (Nat.le_refl _) (Nat.le_refl _) hr

/-! ### Bytes -/
/-- The four white bytes. -/
def isWs (c : Int) : Bool := c == 32 || c == 9 || c == 10 || c == 13
def isEnd (c : Int) : Bool := isWs c || c == 44 || c == 125 || c == 93
def isSc (c : Int) : Bool := !isWs c && c != 44 && c != 125 && c != 93 && c != 123 && c != 91 && c != 34 && c != 58

theorem isWs_iff (c : Int) : isWs c = true ↔ (c = 32 ∨ c = 9 ∨ c = 10 ∨ c = 13) := by simp [isWs, or_assoc]
theorem isEnd_iff (c : Int) : isEnd c = true ↔ (c = 32 ∨ c = 9 ∨ c = 10 ∨ c = 13 ∨ c = 44 ∨ c = 125 ∨ c = 93) := by simp [isEnd, isWs, or_assoc]
theorem isSc_iff (c : Int) : isSc c = true ↔ (c ≠ 32 ∧ c ≠ 9 ∧ c ≠ 10 ∧ c ≠ 13 ∧ c ≠ 44 ∧ c ≠ 125 ∧ c ≠ 93 ∧ c ≠ 123 ∧ c ≠ 91 ∧ c ≠ 34 ∧ c ≠ 58) := by simp [isSc, isWs, and_assoc]
theorem not_isWs_iff (c : Int) : isWs c = false ↔ (c ≠ 32 ∧ c ≠ 9 ∧ c ≠ 10 ∧ c ≠ 13) := by simp [isWs, and_assoc]
theorem not_isEnd_iff (c : Int) : isEnd c = false ↔ (c ≠ 32 ∧ c ≠ 9 ∧ c ≠ 10 ∧ c ≠ 13 ∧ c ≠ 44 ∧ c ≠ 125 ∧ c ≠ 93) := by simp [isEnd, isWs, and_assoc]

/-- j is where skipping white space from i stops. -/
def Skip (f : Nat → Int) (n i j : Nat) : Prop := i ≤ j ∧ (j ≤ n ∨ j = i) ∧ (∀ k, i ≤ k → k < j → isWs (f k) = true) ∧ (n ≤ j ∨ isWs (f j) = false)

theorem Skip.uniq {f : Nat → Int} {n i a b : Nat} (ha : Skip f n i a) (hb : Skip f n i b) : a = b := by
  obtain ⟨a1, a2, a3, a4⟩ := ha
  obtain ⟨b1, b2, b3, b4⟩ := hb
  rcases Nat.lt_trichotomy a b with h | h | h
  · have := b3 a a1 h
    rcases a4 with h4 | h4
    · omega
    · rw [this] at h4; cases h4
  · exact h
  · have := a3 b b1 h
    rcases b4 with h4 | h4
    · omega
    · rw [this] at h4; cases h4

/-! ### The scan by depth -/
/-- One step of the scan at place p.1, depth p.2: a string whole; an opening bracket; a closing one (not the last); any other byte. -/
def DStep (f : Nat → Int) (n : Nat) (p q : Nat × Nat) : Prop :=
  p.1 < n ∧
  ((f p.1 = 34 ∧ SE f n (p.1 + 1) q.1 ∧ q.2 = p.2) ∨
   ((f p.1 = 123 ∨ f p.1 = 91) ∧ q.1 = p.1 + 1 ∧ q.2 = p.2 + 1) ∨
   ((f p.1 = 125 ∨ f p.1 = 93) ∧ 2 ≤ p.2 ∧ q.1 = p.1 + 1 ∧ q.2 + 1 = p.2) ∨
   (f p.1 ≠ 34 ∧ f p.1 ≠ 123 ∧ f p.1 ≠ 91 ∧ f p.1 ≠ 125 ∧ f p.1 ≠ 93 ∧ q.1 = p.1 + 1 ∧ q.2 = p.2))

/-- From place i at depth d the scan comes to place j at depth c, where the last bracket closes: it answers j + 1. -/
def DE (f : Nat → Int) (n i d e : Nat) : Prop := ∃ j, Rc (DStep f n) (i, d) (j, 1) ∧ j < n ∧ (f j = 125 ∨ f j = 93) ∧ e = j + 1

theorem drun_le {f : Nat → Int} {n : Nat} {p q : Nat × Nat} (h : Rc (DStep f n) p q) : p.1 ≤ q.1 :=
  h.keep (fun a b => a.1 ≤ b.1) (fun _ => Nat.le_refl _) (fun s t u h1 h2 => by
    obtain ⟨_, h1⟩ := h1
    rcases h1 with ⟨_, h, _⟩ | ⟨_, h, _⟩ | ⟨_, _, h, _⟩ | ⟨_, _, _, _, _, h, _⟩
    · have := h.lt; omega
    · omega
    · omega
    · omega)

theorem DE.lt {f : Nat → Int} {n i d e : Nat} (h : DE f n i d e) : i < n ∧ i < e ∧ e ≤ n := by
  obtain ⟨j, h1, h2, _, rfl⟩ := h
  have := drun_le h1
  simp only at this
  omega

/-- The ways of a round. -/
theorem DE.str_inv {f : Nat → Int} {n i d e : Nat} (h : DE f n i d e) (hq : f i = 34) : ∃ s, SE f n (i + 1) s ∧ DE f n s d e := by
  obtain ⟨j, h1, h2, h3, rfl⟩ := h
  rcases h1.cases with he | ⟨⟨t, c⟩, ⟨_, ht⟩, hr⟩
  · obtain ⟨rfl, rfl⟩ := Prod.mk.injEq .. ▸ he
    omega
  · rcases ht with ⟨_, hs, hc⟩ | ⟨h, _⟩ | ⟨h, _⟩ | ⟨h, _⟩
    · simp only at hs hc; subst hc; exact ⟨t, hs, j, hr, h2, h3, rfl⟩
    · simp only at h; omega
    · simp only at h; omega
    · exact absurd hq h

theorem DE.open_inv {f : Nat → Int} {n i d e : Nat} (h : DE f n i d e) (hq : f i = 123 ∨ f i = 91) : DE f n (i + 1) (d + 1) e := by
  obtain ⟨j, h1, h2, h3, rfl⟩ := h
  rcases h1.cases with he | ⟨⟨t, c⟩, ⟨_, ht⟩, hr⟩
  · obtain ⟨rfl, rfl⟩ := Prod.mk.injEq .. ▸ he
    omega
  · rcases ht with ⟨h, _⟩ | ⟨_, ht, hc⟩ | ⟨h, _⟩ | ⟨_, h, h', _⟩
    · simp only at h; omega
    · simp only at ht hc; subst ht; subst hc; exact ⟨j, hr, h2, h3, rfl⟩
    · simp only at h; omega
    · simp only at h h'; omega

theorem DE.close_inv {f : Nat → Int} {n i d e : Nat} (h : DE f n i d e) (hq : f i = 125 ∨ f i = 93) : (d = 1 ∧ e = i + 1) ∨ (2 ≤ d ∧ DE f n (i + 1) (d - 1) e) := by
  obtain ⟨j, h1, h2, h3, rfl⟩ := h
  rcases h1.cases with he | ⟨⟨t, c⟩, ⟨_, ht⟩, hr⟩
  · obtain ⟨rfl, rfl⟩ := Prod.mk.injEq .. ▸ he
    exact .inl ⟨rfl, rfl⟩
  · rcases ht with ⟨h, _⟩ | ⟨h, _⟩ | ⟨_, hd, ht, hc⟩ | ⟨_, _, _, h, h', _⟩
    · simp only at h; omega
    · simp only at h; omega
    · simp only at hd ht hc; subst ht
      have : c = d - 1 := by omega
      subst this
      exact .inr ⟨hd, j, hr, h2, h3, rfl⟩
    · simp only at h h'; omega

theorem DE.other_inv {f : Nat → Int} {n i d e : Nat} (h : DE f n i d e) (hq : f i ≠ 34 ∧ f i ≠ 123 ∧ f i ≠ 91 ∧ f i ≠ 125 ∧ f i ≠ 93) : DE f n (i + 1) d e := by
  obtain ⟨j, h1, h2, h3, rfl⟩ := h
  rcases h1.cases with he | ⟨⟨t, c⟩, ⟨_, ht⟩, hr⟩
  · obtain ⟨rfl, rfl⟩ := Prod.mk.injEq .. ▸ he
    omega
  · rcases ht with ⟨h, _⟩ | ⟨h, _⟩ | ⟨h, _⟩ | ⟨_, _, _, _, _, ht, hc⟩
    · simp only at h; omega
    · simp only at h; omega
    · simp only at h; omega
    · simp only at ht hc; subst ht; subst hc; exact ⟨j, hr, h2, h3, rfl⟩

/-- The steps the other way: what may stand ahead. -/
theorem Rc.plain {f : Nat → Int} {n i d : Nat} (hi : i < n) (hq : f i ≠ 34 ∧ f i ≠ 123 ∧ f i ≠ 91 ∧ f i ≠ 125 ∧ f i ≠ 93) : Rc (DStep f n) (i, d) (i + 1, d) :=
  Rc.head (t := (i + 1, d)) ⟨hi, .inr (.inr (.inr ⟨hq.1, hq.2.1, hq.2.2.1, hq.2.2.2.1, hq.2.2.2.2, rfl, rfl⟩))⟩ (Rc.refl _ _)

theorem Rc.plains {f : Nat → Int} {n i d : Nat} : ∀ (m : Nat), i + m ≤ n → (∀ k, i ≤ k → k < i + m → f k ≠ 34 ∧ f k ≠ 123 ∧ f k ≠ 91 ∧ f k ≠ 125 ∧ f k ≠ 93) → Rc (DStep f n) (i, d) (i + m, d) := by
  intro m
  induction m with
  | zero => intro _ _; exact Rc.refl _ _
  | succ m ih =>
    intro hm h
    exact (ih (by omega) (fun k h1 h2 => h k h1 (by omega))).trans (Rc.plain (by omega) (h (i + m) (by omega) (by omega)))

theorem Rc.skip {f : Nat → Int} {n i j d : Nat} (h : Skip f n i j) (hj : j ≤ n) : Rc (DStep f n) (i, d) (j, d) := by
  obtain ⟨h1, _, h3, _⟩ := h
  have := Rc.plains (f := f) (n := n) (i := i) (d := d) (j - i) (by omega) (fun k a b => by
    have := (isWs_iff _).1 (h3 k a (by omega)); omega)
  rwa [show i + (j - i) = j by omega] at this

/-- What the grammar says of a value from i to e. -/
def Val (f : Nat → Int) (n i e : Nat) : Prop :=
  (f i = 34 ∧ SE f n (i + 1) e) ∨ ((f i = 91 ∨ f i = 123) ∧ DE f n i 0 e) ∨
  (f i ≠ 34 ∧ f i ≠ 91 ∧ f i ≠ 123 ∧ i < e ∧ e ≤ n ∧ ∀ k, i ≤ k → k < e → isSc (f k) = true)

theorem Val.lt {f : Nat → Int} {n i e : Nat} (h : Val f n i e) : i < e ∧ e ≤ n := by
  rcases h with ⟨_, h⟩ | ⟨_, h⟩ | ⟨_, _, _, h1, h2, _⟩
  · have := h.lt; omega
  · have := h.lt; omega
  · omega

/-- A scan from depth d stays a scan, c levels deeper. -/
theorem Rc.deeper {f : Nat → Int} {n : Nat} (c : Nat) {p q : Nat × Nat} (h : Rc (DStep f n) p q) : Rc (DStep f n) (p.1, p.2 + c) (q.1, q.2 + c) :=
  h.keep (fun a b => Rc (DStep f n) (a.1, a.2 + c) (b.1, b.2 + c)) (fun _ => Rc.refl _ _) (fun s t u h1 h2 => by
    refine Rc.head ?_ h2
    obtain ⟨h0, h1⟩ := h1
    refine ⟨h0, ?_⟩
    rcases h1 with ⟨a, b, d⟩ | ⟨a, b, d⟩ | ⟨a, b, d, e⟩ | ⟨a1, a2, a3, a4, a5, b, d⟩
    · exact .inl ⟨a, b, by simp only; omega⟩
    · exact .inr (.inl ⟨a, b, by simp only; omega⟩)
    · exact .inr (.inr (.inl ⟨a, by simp only; omega, d, by simp only; omega⟩))
    · exact .inr (.inr (.inr ⟨a1, a2, a3, a4, a5, b, by simp only; omega⟩)))

/-- A value inside brackets: the scan goes over it. -/
theorem Val.over {f : Nat → Int} {n i e d : Nat} (h : Val f n i e) (hd : 1 ≤ d) : Rc (DStep f n) (i, d) (e, d) := by
  have hl := h.lt
  rcases h with ⟨hq, h⟩ | ⟨hq, j, h1, h2, h3, rfl⟩ | ⟨_, _, _, h1, h2, h3⟩
  · exact Rc.head (t := (e, d)) ⟨by simp only; omega, .inl ⟨hq, h, rfl⟩⟩ (Rc.refl _ _)
  · have := h1.deeper d
    simp only [Nat.zero_add] at this
    refine this.tail ⟨h2, .inr (.inr (.inl ⟨h3, by simp only; omega, rfl, by simp only; omega⟩))⟩
  · have := Rc.plains (f := f) (n := n) (i := i) (d := d) (e - i) (by omega) (fun k a b => by
      have := (isSc_iff _).1 (h3 k a (by omega)); omega)
    rwa [show i + (e - i) = e by omega] at this

/-- What valueEnd wants: its answer at i is e. -/
def VE (f : Nat → Int) (n i e : Nat) : Prop :=
  (f i = 34 ∧ SE f n (i + 1) e) ∨ ((f i = 91 ∨ f i = 123) ∧ DE f n i 0 e) ∨
  (f i ≠ 34 ∧ f i ≠ 91 ∧ f i ≠ 123 ∧ i < e ∧ e ≤ n ∧ (∀ k, i ≤ k → k < e → isEnd (f k) = false) ∧ (e = n ∨ isEnd (f e) = true))

theorem VE.lt {f : Nat → Int} {n i e : Nat} (h : VE f n i e) : i < e ∧ e ≤ n := by
  rcases h with ⟨_, h⟩ | ⟨_, h⟩ | ⟨_, _, _, h1, h2, _⟩
  · have := h.lt; omega
  · have := h.lt; omega
  · omega

theorem Val.ve {f : Nat → Int} {n i e : Nat} (h : Val f n i e) (hend : f i = 34 ∨ f i = 91 ∨ f i = 123 ∨ e = n ∨ isEnd (f e) = true) : VE f n i e := by
  rcases h with h | h | ⟨h1, h2, h3, h4, h5, h6⟩
  · exact .inl h
  · exact .inr (.inl h)
  · refine .inr (.inr ⟨h1, h2, h3, h4, h5, fun k a b => ?_, ?_⟩)
    · have := (isSc_iff _).1 (h6 k a b)
      rw [not_isEnd_iff]; omega
    · rcases hend with h | h | h | h | h
      · omega
      · omega
      · omega
      · exact .inl h
      · exact .inr h

/-- A value, white space, then a comma or a closing bracket: its end is where valueEnd says. -/
theorem Val.ve_of_skip {f : Nat → Int} {n i e j : Nat} (h : Val f n i e) (hs : Skip f n e j) (hj : j < n) (hc : f j = 44 ∨ f j = 93 ∨ f j = 125) : VE f n i e := by
  refine h.ve ?_
  obtain ⟨s1, _, s3, _⟩ := hs
  by_cases he : e = j
  · right; right; right; right
    rw [isEnd_iff, he]; omega
  · right; right; right; right
    have := (isWs_iff _).1 (s3 e (Nat.le_refl _) (by omega))
    rw [isEnd_iff]; omega

/-- m elements from place j on (at an element's head), then the closing bracket just ahead of e. -/
def El (f : Nat → Int) (n : Nat) : Nat → Nat → Nat → Prop
  | 0, _, _ => False
  | m + 1, j, e => ∃ v j2, Val f n j v ∧ Skip f n v j2 ∧ j2 < n ∧
      ((f j2 = 44 ∧ ∃ j3, Skip f n (j2 + 1) j3 ∧ El f n m j3 e) ∨ (f j2 = 93 ∧ m = 0 ∧ e = j2 + 1))

theorem Skip.le {f : Nat → Int} {n i j : Nat} (h : Skip f n i j) : i ≤ j := h.1

theorem El.scan {f : Nat → Int} {n : Nat} : ∀ (m : Nat) {j e : Nat}, El f n m j e → DE f n j 1 e := by
  intro m
  induction m with
  | zero => intro j e h; exact h.elim
  | succ m ih =>
    intro j e h
    obtain ⟨v, j2, hv, hs, hj, h⟩ := h
    have r1 : Rc (DStep f n) (j, 1) (j2, 1) := (hv.over (Nat.le_refl _)).trans (Rc.skip hs (by omega))
    rcases h with ⟨hc, j3, hs3, hel⟩ | ⟨hc, rfl, rfl⟩
    · obtain ⟨q, hr, h2, h3, rfl⟩ := ih hel
      have hl := drun_le hr
      simp only at hl
      refine ⟨q, r1.trans (((Rc.plain hj (by omega)).trans (Rc.skip hs3 (by omega))).trans hr), h2, h3, rfl⟩
    · exact ⟨j2, r1, hj, .inr hc, rfl⟩

/-- An array whole. -/
theorem arr_val {f : Nat → Int} {n i j m e : Nat} (hi : i < n) (h : f i = 91) (hs : Skip f n (i + 1) j)
    (hr : (j < n ∧ f j = 93 ∧ e = j + 1) ∨ El f n m j e) : Val f n i e := by
  refine .inr (.inl ⟨.inl h, ?_⟩)
  have hop : DStep f n (i, 0) (i + 1, 1) := ⟨hi, .inr (.inl ⟨.inr h, rfl, rfl⟩)⟩
  rcases hr with ⟨h1, h2, rfl⟩ | hr
  · exact ⟨j, Rc.head hop (Rc.skip hs (by omega)), h1, .inr h2, rfl⟩
  · obtain ⟨q, hq, h2, h3, rfl⟩ := hr.scan
    have hl := drun_le hq
    simp only at hl
    exact ⟨q, Rc.head hop ((Rc.skip hs (by omega)).trans hq), h2, h3, rfl⟩

end Go.Proofs.Qxb6000571a.Plain
