/-
  THE PLAIN LAWS of seat b6614930a: bytes, runs of bytes in a text. No Go in sight.
-/
namespace Go.Proofs.Qxb6614930a

/-- A blank: a space or a tab. -/
def blankB (c : Int) : Bool := decide (c = 32 ∨ c = 9)
/-- A byte of a bare key. -/
def bareB (c : Int) : Bool := decide ((65 ≤ c ∧ c ≤ 90) ∨ (97 ≤ c ∧ c ≤ 122) ∨ (48 ≤ c ∧ c ≤ 57) ∨ c = 45 ∨ c = 95)
/-- A byte of a bare value. -/
def wordB (c : Int) : Bool := decide ((65 ≤ c ∧ c ≤ 90) ∨ (97 ≤ c ∧ c ≤ 122) ∨ (48 ≤ c ∧ c ≤ 57) ∨ c = 45 ∨ c = 95 ∨ c = 43 ∨ c = 46 ∨ c = 58)
/-- A decimal digit. -/
def digB (c : Int) : Bool := decide (48 ≤ c ∧ c ≤ 57)

theorem wordB_bare {c : Int} : wordB c = (bareB c || decide (c = 43) || decide (c = 46) || decide (c = 58)) := by
  rw [Bool.eq_iff_iff]; simp [wordB, bareB]; omega

/-- The byte at place k of a text (0 behind its end). -/
def at_ (s : ByteArray) (k : Nat) : Int := ((s.data.toList.getD k 0).toNat : Int)

theorem at_eq (s : ByteArray) (k : Nat) (h : k < s.size) : at_ s k = (s[k].toNat : Int) := by
  have h' : k < s.data.toList.length := by simpa using h
  unfold at_
  rw [List.getD_eq_getElem?_getD, List.getElem?_eq_getElem h']
  rfl

/-- q is where the run of bytes that f lets, from p on, stops. -/
structure Stop (f : Int → Bool) (s : ByteArray) (p q : Nat) : Prop where
  lo : p ≤ q
  hi : q ≤ s.size
  run : ∀ k, p ≤ k → k < q → f (at_ s k) = true
  ends : q < s.size → f (at_ s q) = false

theorem Stop.uniq {f : Int → Bool} {s : ByteArray} {p q r : Nat} (h : Stop f s p q) (g : Stop f s p r) : q = r := by
  rcases Nat.lt_trichotomy q r with a | a | a
  · have e1 := g.run q h.lo a; have e2 := h.ends (by have := g.hi; omega); rw [e1] at e2; cases e2
  · exact a
  · have e1 := h.run r g.lo a; have e2 := g.ends (by have := h.hi; omega); rw [e1] at e2; cases e2

theorem at_append_left (a b : ByteArray) (k : Nat) (h : k < a.size) : at_ (a ++ b) k = at_ a k := by
  rw [at_eq _ _ h, at_eq _ _ (by simp; omega), ByteArray.getElem_append_left h]

theorem at_append_right (a b : ByteArray) (k : Nat) (h : k < b.size) : at_ (a ++ b) (a.size + k) = at_ b k := by
  rw [at_eq _ _ h, at_eq _ _ (by simp; omega), ByteArray.getElem_append_right (by omega)]
  simp

theorem at_extract (s : ByteArray) (i j k : Nat) (hj : j ≤ s.size) (h : i + k < j) : at_ (s.extract i j) k = at_ s (i + k) := by
  rw [at_eq _ _ (by omega : i + k < s.size), at_eq _ _ (by simp [ByteArray.size_extract]; omega), ByteArray.getElem_extract]

/-- The run stops inside the first part: the second part turns nothing. -/
theorem Stop.append_in {f : Int → Bool} {a : ByteArray} {p q : Nat} (h : Stop f a p q) (b : ByteArray) (hq : q < a.size) : Stop f (a ++ b) p q :=
  ⟨h.lo, by simp; omega, fun k h1 h2 => by rw [at_append_left _ _ _ (by omega)]; exact h.run k h1 h2, fun _ => by rw [at_append_left _ _ _ hq]; exact h.ends hq⟩

/-- The run takes the first part to its end: it goes on in the second. -/
theorem Stop.append_out {f : Int → Bool} {a b : ByteArray} {p s : Nat} (h : Stop f a p a.size) (g : Stop f b 0 s) : Stop f (a ++ b) p (a.size + s) := by
  refine ⟨by have := h.lo; omega, by have := g.hi; simp; omega, fun k h1 h2 => ?_, fun hk => ?_⟩
  · by_cases c : k < a.size
    · rw [at_append_left _ _ _ c]; exact h.run k h1 c
    · obtain ⟨j, rfl⟩ : ∃ j, k = a.size + j := ⟨k - a.size, by omega⟩
      rw [at_append_right _ _ _ (by have := g.hi; omega)]
      exact g.run j (Nat.zero_le _) (by omega)
  · have hs : s < b.size := by simp at hk; omega
    rw [at_append_right _ _ _ hs]; exact g.ends hs

/-- A prefix shifts the stop. -/
theorem Stop.shift {f : Int → Bool} {t : ByteArray} {p q : Nat} (h : Stop f t p q) (x : ByteArray) : Stop f (x ++ t) (x.size + p) (x.size + q) := by
  refine ⟨by have := h.lo; omega, by have := h.hi; simp; omega, fun k h1 h2 => ?_, fun hk => ?_⟩
  · obtain ⟨j, rfl⟩ : ∃ j, k = x.size + j := ⟨k - x.size, by omega⟩
    rw [at_append_right _ _ _ (by have := h.hi; omega)]
    exact h.run j (by omega) (by omega)
  · have hs : q < t.size := by simp at hk; omega
    rw [at_append_right _ _ _ hs]; exact h.ends hs

/-- At the stop nothing more runs. -/
theorem Stop.again {f : Int → Bool} {t : ByteArray} {p q : Nat} (h : Stop f t p q) : Stop f t q q :=
  ⟨Nat.le_refl _, h.hi, fun k h1 h2 => by omega, h.ends⟩

/-- The run, read by itself, is read whole. -/
theorem Stop.self {f : Int → Bool} {t : ByteArray} {p q : Nat} (h : Stop f t p q) : Stop f (t.extract p q) 0 (t.extract p q).size := by
  have := h.lo; have := h.hi
  refine ⟨Nat.zero_le _, Nat.le_refl _, fun k _ h2 => ?_, fun hk => by omega⟩
  rw [ByteArray.size_extract] at h2
  rw [at_extract _ _ _ _ h.hi (by omega)]
  exact h.run _ (by omega) (by omega)

/-- All bytes of the text are let. -/
def allB (f : Int → Bool) (s : ByteArray) : Bool := decide (∀ k, k < s.size → f (at_ s k) = true)
/-- The place is the text's end, or its byte is not let. -/
def stopB (f : Int → Bool) (s : ByteArray) (q : Nat) : Bool := decide (q = s.size ∨ f (at_ s q) = false)

theorem Stop.all {f : Int → Bool} {t : ByteArray} {p q : Nat} (h : Stop f t p q) : allB f (t.extract p q) = true := by
  have g := h.self
  unfold allB
  rw [decide_eq_true_iff]
  exact fun k hk => g.run k (Nat.zero_le _) hk

theorem Stop.stop {f : Int → Bool} {t : ByteArray} {p q : Nat} (h : Stop f t p q) : stopB f t q = true := by
  have := h.hi
  unfold stopB
  rw [decide_eq_true_iff]
  by_cases c : q = t.size
  · exact .inl c
  · exact .inr (h.ends (by omega))

theorem extract_append_in (a b : ByteArray) (p q : Nat) (hq : q ≤ a.size) : (a ++ b).extract p q = a.extract p q := by
  apply ByteArray.ext_getElem
  · simp [ByteArray.size_extract]; omega
  · intro i h1 h2
    rw [ByteArray.getElem_extract, ByteArray.getElem_extract, ByteArray.getElem_append_left]

theorem extract_append_out (a b : ByteArray) (p s : Nat) (hp : p ≤ a.size) (hs : s ≤ b.size) : (a ++ b).extract p (a.size + s) = a.extract p a.size ++ b.extract 0 s := by
  apply ByteArray.ext_getElem
  · simp [ByteArray.size_extract]; omega
  · intro i h1 h2
    rw [ByteArray.getElem_extract]
    by_cases c : p + i < a.size
    · rw [ByteArray.getElem_append_left c, ByteArray.getElem_append_left (by simp [ByteArray.size_extract]; omega), ByteArray.getElem_extract]
    · rw [ByteArray.getElem_append_right (by omega), ByteArray.getElem_append_right (by simp [ByteArray.size_extract]; omega), ByteArray.getElem_extract]
      congr 1
      simp [ByteArray.size_extract]; omega

end Go.Proofs.Qxb6614930a
