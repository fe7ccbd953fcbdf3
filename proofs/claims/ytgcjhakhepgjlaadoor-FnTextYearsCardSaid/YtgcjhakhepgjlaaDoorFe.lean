/-
  THE PLAIN MODEL, part 4: what the elements of a layout are found as. Nothing of the program is imported.
-/
import Derived.Test.YtgcjhakhepgjlaaDoorFp
namespace Go.Proofs.YtgcjhakhepgjlaaDoor.Fs
set_option linter.unusedVariables false
set_option linter.unusedSimpArgs false

def okStep (o : Option (Nat × Int × Nat)) : Prop := ∀ e s n, o = some (e, s, n) → e ≤ n
theorem ok_none : okStep none := fun _ _ _ h => by cases h
theorem ok_some {e : Nat} {s : Int} {n : Nat} (h : e ≤ n) : okStep (some (e, s, n)) := fun _ _ _ h' => by cases h'; exact h
theorem ok_ite {c : Prop} [Decidable c] {a b : Option (Nat × Int × Nat)} (ha : okStep a) (hb : okStep b) : okStep (if c then a else b) := by
  by_cases h : c
  · rw [if_pos h]; exact ha
  · rw [if_neg h]; exact hb
theorem step_ok (l : Bs) : okStep (step l) := by
  rcases l with _ | ⟨c, t⟩
  · exact ok_none
  unfold step
  rcases t with _ | ⟨d, t⟩
  all_goals
    dsimp only
    repeat' first
      | exact ok_none
      | exact ok_some (by omega)
      | refine ok_ite ?_ ?_
theorem step_le {l : Bs} {e n : Nat} {s : Int} (h : step l = some (e, s, n)) : e ≤ n := step_ok l e s n h

theorem next_bounds : ∀ l : Bs, (next l).1.length + (next l).2.2.length ≤ l.length
  | [] => by simp [next]
  | c :: t => by
    unfold next
    split
    · rename_i e s n h
      have := step_le h
      simp only [List.length_take, List.length_drop]
      omega
    · have := next_bounds t
      simp [pre]
      omega

/-- the signs that may stand right behind an element -/
def sep : Bs → Bool
  | [] => true
  | c :: _ => !(decide (48 ≤ c.toNat) && decide (c.toNat ≤ 57)) && !(decide (97 ≤ c.toNat) && decide (c.toNat ≤ 122))
def noColon : Bs → Bool
  | [] => true
  | c :: _ => c != 58

theorem sep_cons {c : UInt8} {t : Bs} (h : sep (c :: t) = true) : (c.toNat < 48 ∨ 57 < c.toNat) ∧ (c.toNat < 97 ∨ 122 < c.toNat) := by
  simp [sep] at h
  omega
theorem ne_of_toNat {c d : UInt8} (h : c.toNat ≠ d.toNat) : c ≠ d := fun e => h (by rw [e])
theorem sep_ne {c : UInt8} {t : Bs} (h : sep (c :: t) = true) : c ≠ 48 ∧ c ≠ 49 ∧ c ≠ 50 ∧ c ≠ 51 ∧ c ≠ 52 ∧ c ≠ 53 ∧ c ≠ 54 ∧ c ≠ 55 ∧ c ≠ 57 ∧ c ≠ 97 ∧ c ≠ 117 ∧ c ≠ 100 := by
  have h1 := sep_cons h
  refine ⟨?_, ?_, ?_, ?_, ?_, ?_, ?_, ?_, ?_, ?_, ?_, ?_⟩ <;> (rintro rfl; simp at h1)
theorem run_rep (d : UInt8) : ∀ (n : Nat) (r : Bs), (∀ c t, r = c :: t → c ≠ d) → run d (List.replicate n d ++ r) = n
  | 0, [], _ => rfl
  | 0, c :: t, h => by simp [run, h c t rfl]
  | n + 1, r, h => by simp [List.replicate_succ, run, run_rep d n r h]

/-- the number of an element -/
def code (p : Piece) : Int := (step (element p)).elim 0 fun x => x.2.1
/-- EVERY ELEMENT IS FOUND, whatever stands behind it that may. -/
theorem step_element {p : Piece} (hp : pieceOk p = true) (hk : p.kind ≠ 0) {r : Bs} (hr : sep r = true) (hz : isZone p.kind = true → noColon r = true) :
    ∃ s, s ≠ 0 ∧ step (element p ++ r) = some (0, s, (element p).length) := by
  obtain ⟨K, T, N, C⟩ := p
  simp only at hk hz
  by_cases h3 : isFraction K = true
  · have hn : 1 ≤ N ∧ N ≤ 9 := (show T = [] ∧ 1 ≤ N ∧ N ≤ 9 by simpa [pieceOk, hk, h3, within] using hp).2
    obtain ⟨M, rfl⟩ : ∃ M : Nat, N = (M + 1 : Nat) := ⟨(N - 1).toNat, by omega⟩
    have hM : M ≤ 8 := by omega
    have hd : ∀ d : UInt8, d = 48 ∨ d = 57 → ∀ c t, r = c :: t → c ≠ d := by
      rintro d hd c t rfl
      have := sep_ne hr
      rcases hd with rfl | rfl
      · exact this.1
      · exact this.2.2.2.2.2.2.2.2.1
    have hdig : ∀ (d : UInt8), digAt (List.replicate (M + 1) d ++ r) (M + 1) = false := by
      intro d
      rcases r with _ | ⟨c, t⟩
      · simp [digAt]
      · have := sep_cons hr
        simp [digAt, isDig]
        omega
    have hk4 : K = 33 ∨ K = 34 := by simpa [isFraction] using h3
    have key : ∀ (m d : UInt8), (m = 46 ∨ m = 44) → (d = 48 ∨ d = 57) → step ([m] ++ List.replicate (M + 1) d ++ r) = some (0, frac (if d = 57 then 35 else 34) (M + 1) m, 1 + (M + 1)) := by
      intro m d hm hd'
      have hrun := run_rep d (M + 1) r (hd d hd')
      have hg := hdig d
      have e1 : [m] ++ List.replicate (M + 1) d ++ r = m :: (List.replicate (M + 1) d ++ r) := rfl
      have e2 : List.replicate (M + 1) d ++ r = d :: (List.replicate M d ++ r) := by simp [List.replicate_succ]
      rw [e1]
      rw [e2] at hrun hg ⊢
      rcases hm with rfl | rfl
      · simp only [step]
        simp [hrun, hg, hd']
      · simp only [step]
        simp [hrun, hg, hd']
    have hf : ∀ (cd : Int) (m : UInt8), (cd = 34 ∨ cd = 35) → frac cd (M + 1) m ≠ 0 := by
      intro cd m hc
      unfold frac
      split <;> omega
    have hmk : ∃ m, markB C = [m] ∧ (m = 46 ∨ m = 44) := by cases C <;> simp [markB]
    obtain ⟨m, hm, hm2⟩ := hmk
    rcases hk4 with rfl | rfl
    · refine ⟨_, hf 34 m (.inl rfl), ?_⟩
      have h := key m 48 hm2 (.inl rfl)
      simp only [element, hm]
      simp at h ⊢
      rw [h]
      simp; omega
    · refine ⟨_, hf 35 m (.inr rfl), ?_⟩
      have h := key m 57 hm2 (.inr rfl)
      simp only [element, hm]
      simp at h ⊢
      rw [h]
      simp; omega
  · have hw : 1 ≤ K ∧ K ≤ 34 := by
      have := hp
      simp [pieceOk, hk, h3, within] at this
      omega
    simp [isFraction] at h3
    have hK : K = 1 ∨ K = 2 ∨ K = 3 ∨ K = 4 ∨ K = 5 ∨ K = 6 ∨ K = 7 ∨ K = 8 ∨ K = 9 ∨ K = 10 ∨ K = 11 ∨ K = 12 ∨ K = 13 ∨ K = 14 ∨ K = 15 ∨ K = 16 ∨ K = 17 ∨ K = 18 ∨ K = 19 ∨ K = 20 ∨ K = 21 ∨ K = 22 ∨ K = 23 ∨ K = 24 ∨ K = 25 ∨ K = 26 ∨ K = 27 ∨ K = 28 ∨ K = 29 ∨ K = 30 ∨ K = 31 ∨ K = 32 := by omega
    clear hp hk hw h3
    rcases r with _ | ⟨c, t⟩
    · clear hz hr
      rw [List.append_nil]
      rcases hK with rfl | rfl | rfl | rfl | rfl | rfl | rfl | rfl | rfl | rfl | rfl | rfl | rfl | rfl | rfl | rfl | rfl | rfl | rfl | rfl | rfl | rfl | rfl | rfl | rfl | rfl | rfl | rfl | rfl | rfl | rfl | rfl
      all_goals exact ⟨_, by decide, rfl⟩
    · have hn := sep_ne hr
      have hl : low (c :: t) = false := by
        have := sep_cons hr
        simp [low]; omega
      have hcl : isZone K = true → c ≠ 58 := fun h => by simpa [noColon] using hz h
      clear hz hr
      obtain ⟨n0, n1, n2, n3, n4, n5, n6, n7, n9, na, nu, nd⟩ := hn
      rcases hK with rfl | rfl | rfl | rfl | rfl | rfl | rfl | rfl | rfl | rfl | rfl | rfl | rfl | rfl | rfl | rfl | rfl | rfl | rfl | rfl | rfl | rfl | rfl | rfl | rfl | rfl | rfl | rfl | rfl | rfl | rfl | rfl
      all_goals
        first
        | (have h58 := hcl rfl
           refine ⟨?_, ?_, ?_⟩
           rotate_left 2
           · simp [element, step, std0x, n0, n1, n2, n3, n4, n5, n6, n7, na, nu, h58]
             rfl
           · decide)
        | (refine ⟨?_, ?_, ?_⟩
           rotate_left 2
           · simp [element, step, std0x, n0, n1, n2, n3, n4, n5, n6, n7, na, nu, nd, hl]
             try rfl
           · decide)

theorem chunk_2006 : chunk [50, 48, 48, 54] = ([], [50, 48, 48, 54], []) := by decide
theorem chunk_element {p : Piece} (hp : pieceOk p = true) (hk : p.kind ≠ 0) {r : Bs} (hr : sep r = true) (hz : isZone p.kind = true → noColon r = true) : chunk (element p ++ r) = ([], element p, r) := by
  obtain ⟨s, hs, h⟩ := step_element hp hk hr hz
  have h2 := next_found h
  simp [chunk, h2, hs]
theorem element_len {p : Piece} (hp : pieceOk p = true) : (element p).length ≤ 1000 := by
  obtain ⟨K, T, N, C⟩ := p
  by_cases h0 : K = 0
  · subst h0
    have : plain T = true := by
      simp [pieceOk] at hp
      exact hp.1.1.2
    have : T.length ≤ 1000 := by
      simp [plain] at this
      exact this.2
    simpa [element] using this
  by_cases h3 : isFraction K = true
  · have hn : 1 ≤ N ∧ N ≤ 9 := (show T = [] ∧ 1 ≤ N ∧ N ≤ 9 by simpa [pieceOk, h0, h3, within] using hp).2
    have hk4 : K = 33 ∨ K = 34 := by simpa [isFraction] using h3
    rcases hk4 with rfl | rfl
    · cases C <;> simp [element, markB] <;> omega
    · cases C <;> simp [element, markB] <;> omega
  · have hw : 1 ≤ K ∧ K ≤ 34 := by
      have := hp
      simp [pieceOk, h0, h3, within] at this
      omega
    simp [isFraction] at h3
    have hK : K = 1 ∨ K = 2 ∨ K = 3 ∨ K = 4 ∨ K = 5 ∨ K = 6 ∨ K = 7 ∨ K = 8 ∨ K = 9 ∨ K = 10 ∨ K = 11 ∨ K = 12 ∨ K = 13 ∨ K = 14 ∨ K = 15 ∨ K = 16 ∨ K = 17 ∨ K = 18 ∨ K = 19 ∨ K = 20 ∨ K = 21 ∨ K = 22 ∨ K = 23 ∨ K = 24 ∨ K = 25 ∨ K = 26 ∨ K = 27 ∨ K = 28 ∨ K = 29 ∨ K = 30 ∨ K = 31 ∨ K = 32 := by omega
    clear hp h0 hw h3
    rcases hK with rfl | rfl | rfl | rfl | rfl | rfl | rfl | rfl | rfl | rfl | rfl | rfl | rfl | rfl | rfl | rfl | rfl | rfl | rfl | rfl | rfl | rfl | rfl | rfl | rfl | rfl | rfl | rfl | rfl | rfl | rfl | rfl
    all_goals simp [element]
end Go.Proofs.YtgcjhakhepgjlaaDoor.Fs
