/-
  THE PLAIN MODEL, part 5: a layout of pieces: the elements are found one after the other, with the text between. Nothing of the program is imported.
-/
import Derived.Test.YtgcjhakhepgjlaaDoorFe
namespace Go.Proofs.YtgcjhakhepgjlaaDoor.Fs
set_option linter.unusedVariables false
set_option linter.unusedSimpArgs false

/-- a sign of a plain text -/
def plainC (c : UInt8) : Bool := plainSign c || plainLetter c
/-- what must not stand behind a minus -/
def no07 : Bs → Bool
  | a :: b :: _ => !(a == 48 && b == 55)
  | _ => true
theorem plainC_cases {c : UInt8} (h : plainC c = true) : c ≠ 74 ∧ c ≠ 77 ∧ c ≠ 48 ∧ c ≠ 49 ∧ c ≠ 50 ∧ c ≠ 95 ∧ c ≠ 51 ∧ c ≠ 52 ∧ c ≠ 53 ∧ c ≠ 80 ∧ c ≠ 112 ∧ c ≠ 90 ∧ c ≠ 46 ∧ c ≠ 44 := by
  refine ⟨?_, ?_, ?_, ?_, ?_, ?_, ?_, ?_, ?_, ?_, ?_, ?_, ?_, ?_⟩ <;> (rintro rfl; revert h; decide)
theorem step_plain {c : UInt8} {t : Bs} (h : plainC c = true) (h7 : no07 t = true) : step (c :: t) = none := by
  obtain ⟨h1, h2, h3, h4, h5, h6, h7', h8, h9, h10, h11, h12, h13, h14⟩ := plainC_cases h
  by_cases h45 : c = 45
  · subst h45
    rcases t with _ | ⟨a, t⟩
    · decide
    rcases t with _ | ⟨b, t⟩
    · simp [step]
    have hn : ¬ (a = 48 ∧ b = 55) := by
      simp [no07] at h7
      rintro ⟨rfl, rfl⟩
      simp at h7
    have key : ∀ (n : Nat) (x : Bs), List.take (n + 2) (a :: b :: t) = 48 :: 55 :: x → False := by
      intro n x hx
      simp at hx
      exact hn ⟨hx.1, hx.2.1⟩
    have e7 : ¬ List.take 7 (45 :: a :: b :: t) = [45, 48, 55, 48, 48, 48, 48] := by intro hx; simp at hx; exact hn ⟨hx.1, hx.2.1⟩
    have e9 : ¬ List.take 9 (45 :: a :: b :: t) = [45, 48, 55, 58, 48, 48, 58, 48, 48] := by intro hx; simp at hx; exact hn ⟨hx.1, hx.2.1⟩
    have e5 : ¬ List.take 5 (45 :: a :: b :: t) = [45, 48, 55, 48, 48] := by intro hx; simp at hx; exact hn ⟨hx.1, hx.2.1⟩
    have e6 : ¬ List.take 6 (45 :: a :: b :: t) = [45, 48, 55, 58, 48, 48] := by intro hx; simp at hx; exact hn ⟨hx.1, hx.2.1⟩
    have e3 : ¬ List.take 3 (45 :: a :: b :: t) = [45, 48, 55] := by intro hx; simp at hx; exact hn ⟨hx.1, hx.2⟩
    unfold step
    simp only [e7, e9, e5, e6, e3]
    rfl
  · unfold step
    simp only [h1, h2, h3, h4, h5, h6, h7', h8, h9, h10, h11, h12, h13, h14, h45, if_false, or_self]
theorem plainC_no07 {c : UInt8} {t : Bs} (h : plainC c = true) : no07 (c :: t) = true := by
  have := (plainC_cases h).2.2.1
  rcases t with _ | ⟨b, t⟩
  · rfl
  · simp [no07, this]
/-- plain text is text -/
theorem next_text : ∀ (t r : Bs), t.all plainC = true → no07 r = true → next (t ++ r) = pre t (next r)
  | [], r, _, _ => by simp [pre_nil]
  | c :: t, r, h, h7 => by
    simp only [List.all_cons, Bool.and_eq_true] at h
    have hn : no07 (t ++ r) = true := by
      rcases t with _ | ⟨d, t⟩
      · exact h7
      · simp only [List.all_cons, Bool.and_eq_true] at h
        exact plainC_no07 h.2.1
    rw [List.cons_append, next_skip (step_plain h.1 hn), next_text t r h.2 h7, pre_pre]
    rfl
theorem next_all {t : Bs} (h : t.all plainC = true) : next t = (t, 0, []) := by
  have := next_text t [] h rfl
  simpa [pre, next] using this
theorem chunk_end {t : Bs} (h : t.all plainC = true) : chunk t = (t, [], []) := by
  simp [chunk, next_all h]
theorem chunk_mid {t e r : Bs} {s : Int} (h : t.all plainC = true) (hs : s ≠ 0) (hst : step (e ++ r) = some (0, s, e.length)) (h7 : no07 (e ++ r) = true) : chunk (t ++ (e ++ r)) = (t, e, r) := by
  have h1 := next_text t (e ++ r) h h7
  rw [next_found hst] at h1
  simp [pre] at h1
  have e1 : (t ++ (e ++ r)).length - r.length = (t ++ e).length := by simp; omega
  have e2 : List.take ((t ++ (e ++ r)).length - r.length) (t ++ (e ++ r)) = t ++ e := by
    rw [e1, ← List.append_assoc, List.take_left']
    rfl
  unfold chunk
  simp only [h1, if_neg hs, e2]
  simp

theorem plain_all {t : Bs} (h : plain t = true) : t.all plainC = true := by
  rcases t with _ | ⟨c, t⟩
  · rfl
  · simp [plain, plainAll, plainTail, plainC] at h ⊢
    exact ⟨.inl h.1.1, h.1.2⟩
theorem plain_head {c : UInt8} {t : Bs} (h : plain (c :: t) = true) : plainSign c = true := by
  simp [plain, plainAll] at h
  exact h.1.1
theorem sign_sep {c : UInt8} {t : Bs} (h : plainSign c = true) : sep (c :: t) = true := by
  simp [plainSign] at h
  simp [sep]
  omega

/-- what an element's text begins with -/
theorem element_no07 {p : Piece} (hp : pieceOk p = true) (hk : p.kind ≠ 0) (r : Bs) (hr : sep r = true) : no07 (element p ++ r) = true := by
  obtain ⟨K, T, N, C⟩ := p
  simp only at hk
  by_cases h3 : isFraction K = true
  · have hk4 : K = 33 ∨ K = 34 := by simpa [isFraction] using h3
    have hmk : ∃ m, markB C = [m] ∧ m ≠ 48 := by cases C <;> simp [markB]
    obtain ⟨m, hm, hm2⟩ := hmk
    have : ∀ x : Bs, no07 (m :: x) = true := by
      intro x
      rcases x with _ | ⟨b, x⟩
      · rfl
      · simp [no07, hm2]
    rcases hk4 with rfl | rfl
    · simp [element, hm, this]
    · simp [element, hm, this]
  · have hw : 1 ≤ K ∧ K ≤ 34 := by
      have := hp
      simp [pieceOk, hk, h3, within] at this
      omega
    simp [isFraction] at h3
    have hK : K = 1 ∨ K = 2 ∨ K = 3 ∨ K = 4 ∨ K = 5 ∨ K = 6 ∨ K = 7 ∨ K = 8 ∨ K = 9 ∨ K = 10 ∨ K = 11 ∨ K = 12 ∨ K = 13 ∨ K = 14 ∨ K = 15 ∨ K = 16 ∨ K = 17 ∨ K = 18 ∨ K = 19 ∨ K = 20 ∨ K = 21 ∨ K = 22 ∨ K = 23 ∨ K = 24 ∨ K = 25 ∨ K = 26 ∨ K = 27 ∨ K = 28 ∨ K = 29 ∨ K = 30 ∨ K = 31 ∨ K = 32 := by omega
    clear hp hk hw h3
    rcases r with _ | ⟨c, t⟩
    all_goals
      rcases hK with rfl | rfl | rfl | rfl | rfl | rfl | rfl | rfl | rfl | rfl | rfl | rfl | rfl | rfl | rfl | rfl | rfl | rfl | rfl | rfl | rfl | rfl | rfl | rfl | rfl | rfl | rfl | rfl | rfl | rfl | rfl | rfl
      all_goals simp [element, no07]

/-- what may stand behind an element -/
theorem sep_layout {p : Piece} (hp : pieceOk p = true) (hk : p.kind ≠ 0) {r : List Piece} (h : allFrom (some p) r = true) : sep (layout r) = true ∧ (isZone p.kind = true → noColon (layout r) = true) := by
  rcases r with _ | ⟨q, r⟩
  · exact ⟨rfl, fun _ => rfl⟩
  simp only [allFrom, stepOk, Bool.and_eq_true] at h
  obtain ⟨⟨hq, hpq⟩, -⟩ := h
  have hl : layout (q :: r) = element q ++ layout r := by simp [layout]
  rw [hl]
  generalize layout r = x
  obtain ⟨K, T, N, C⟩ := q
  by_cases h0 : K = 0
  · subst h0
    have hT : T ≠ [] ∧ plain T = true := by
      simp [pieceOk] at hq
      exact ⟨hq.1.1.1, hq.1.1.2⟩
    rcases T with _ | ⟨c, t⟩
    · exact absurd rfl hT.1
    · have he : element ⟨0, c :: t, N, C⟩ = c :: t := by simp [element]
      rw [he]
      refine ⟨sign_sep (plain_head hT.2), fun hz => ?_⟩
      simp [pairOk, hz] at hpq
      simp [noColon, hpq]
  · have ht : touch p.kind K = true := by
      simp [pairOk, h0, hk] at hpq
      exact hpq
    have hmk : ∃ m, markB C = [m] ∧ (m = 46 ∨ m = 44) := by cases C <;> simp [markB]
    obtain ⟨m, hm, hm2⟩ := hmk
    have hfin : ∀ c y, element ⟨K, T, N, C⟩ = c :: y → (c = 46 ∨ c = 44 ∨ c = 80 ∨ c = 90) → sep (element ⟨K, T, N, C⟩ ++ x) = true ∧ (isZone p.kind = true → noColon (element ⟨K, T, N, C⟩ ++ x) = true) := by
      intro c y he hc
      rw [he]
      rcases hc with rfl | rfl | rfl | rfl <;> exact ⟨rfl, fun _ => rfl⟩
    unfold touch at ht
    by_cases h3 : isFraction K = true
    · have hk4 : K = 33 ∨ K = 34 := by simpa [isFraction] using h3
      rcases hk4 with rfl | rfl
      · exact hfin m _ (by simp [element, hm]; rfl) (by rcases hm2 with rfl | rfl <;> simp)
      · exact hfin m _ (by simp [element, hm]; rfl) (by rcases hm2 with rfl | rfl <;> simp)
    · by_cases h21 : K = 21
      · subst h21
        exact hfin 80 _ (by simp [element]; rfl) (by simp)
      · by_cases hi : isISO K = true
        · have hK : K = 27 ∨ K = 28 ∨ K = 29 ∨ K = 30 ∨ K = 31 := by
            simp [isISO, within] at hi
            omega
          rcases hK with rfl | rfl | rfl | rfl | rfl <;> exact hfin 90 _ (by simp [element]; rfl) (by simp)
        · simp [h3, h21, hi] at ht

/-- ONE STEP of the law -/
theorem chunk_layout {t : Bs} (ht : t.all plainC = true) {p : Piece} (hp : pieceOk p = true) (hk : p.kind ≠ 0) {r : List Piece} (h : allFrom (some p) r = true) : chunk (t ++ layout (p :: r)) = (t, element p, layout r) := by
  obtain ⟨hs, hz⟩ := sep_layout hp hk h
  obtain ⟨s, hs0, hst⟩ := step_element hp hk hs hz
  have hl : layout (p :: r) = element p ++ layout r := by simp [layout]
  rw [hl]
  exact chunk_mid ht hs0 hst (element_no07 hp hk _ hs)
end Go.Proofs.YtgcjhakhepgjlaaDoor.Fs
