/-
  WALKS, part y: slices of pieces: touch, zzFits1, Layout.
-/
import Derived.Test.YtjkfjlifcilejaaDoorLc
import Derived.Test.YtjkfjlifcilejaaDoorFx
namespace Go.Proofs.YtjkfjlifcilejaaDoor
open Go.RowKit
set_option linter.unusedVariables false
attribute [local go_sem] ByteArray.extract_mk get_mk ByteArray.toList_mk ByteArray.mk_append_mk take_drop_len

theorem touch_any (a b : Int) (w : World) : Calls Tryd.prog 45 #[.int .i64 a, .int .i64 b] w fun e w' => e = .returned (.bool (Fs.touch a b)) ∧ Qt w w' := by
  have HX : Hid (Fs.touch a b = if Fs.isFraction b then Fs.isSecond a else if b == 21 then Fs.within a 15 20 || Fs.isFraction a else if Fs.isISO b then a == 18 || a == 20 || Fs.isFraction a else false) := rfl
  generalize h1 : Fs.isFraction b = f at HX
  cases f
  · generalize h2 : (b == 21) = g at HX
    cases g
    · generalize h3 : Fs.isISO b = i at HX
      cases i
      · go_enter Tryd.func45, Tryd.ntmps45
        go_wp2_with fail
        refine (isFraction_any b _).mono ?_
        rw [h1]
        rintro e w2 ⟨rfl, hq⟩
        go_wp2_with fail
        refine (isISO_any b _).mono ?_
        rw [h3]
        rintro e w3 ⟨rfl, hq3⟩
        clear h1 h2 h3
        go_wp2_with fail
        go_ret
        exact ⟨ret_bool (by rw [HX.out]; rfl), hq.trans hq3⟩
      · generalize h4 : (a == 18) = x at HX
        generalize h5 : (a == 20) = y at HX
        cases x
        · cases y
          · go_enter Tryd.func45, Tryd.ntmps45
            go_wp2_with fail
            refine (isFraction_any b _).mono ?_
            rw [h1]
            rintro e w2 ⟨rfl, hq⟩
            go_wp2_with fail
            refine (isISO_any b _).mono ?_
            rw [h3]
            rintro e w3 ⟨rfl, hq3⟩
            go_wp2_with fail
            refine (isFraction_any a _).mono ?_
            rintro e w4 ⟨rfl, hq4⟩
            clear h1 h2 h3
            go_wp2_with fail
            go_ret
            exact ⟨ret_bool (by rw [HX.out]; rfl), (hq.trans hq3).trans hq4⟩
          · go_enter Tryd.func45, Tryd.ntmps45
            go_wp2_with fail
            refine (isFraction_any b _).mono ?_
            rw [h1]
            rintro e w2 ⟨rfl, hq⟩
            go_wp2_with fail
            refine (isISO_any b _).mono ?_
            rw [h3]
            rintro e w3 ⟨rfl, hq3⟩
            clear h1 h2 h3
            go_wp2_with fail
            go_ret
            exact ⟨ret_bool (by rw [HX.out]; rfl), hq.trans hq3⟩
        · go_enter Tryd.func45, Tryd.ntmps45
          go_wp2_with fail
          refine (isFraction_any b _).mono ?_
          rw [h1]
          rintro e w2 ⟨rfl, hq⟩
          go_wp2_with fail
          refine (isISO_any b _).mono ?_
          rw [h3]
          rintro e w3 ⟨rfl, hq3⟩
          clear h1 h2 h3
          go_wp2_with fail
          go_ret
          exact ⟨ret_bool (by rw [HX.out]; rfl), hq.trans hq3⟩
    · generalize h3 : Fs.within a 15 20 = i at HX
      cases i
      · go_enter Tryd.func45, Tryd.ntmps45
        go_wp2_with fail
        refine (isFraction_any b _).mono ?_
        rw [h1]
        rintro e w2 ⟨rfl, hq⟩
        go_wp2_with fail
        refine (within_any a 15 20 _).mono ?_
        rw [h3]
        rintro e w3 ⟨rfl, hq3⟩
        go_wp2_with fail
        refine (isFraction_any a _).mono ?_
        rintro e w4 ⟨rfl, hq4⟩
        clear h1 h2 h3
        go_wp2_with fail
        go_ret
        exact ⟨ret_bool (by rw [HX.out]; rfl), (hq.trans hq3).trans hq4⟩
      · go_enter Tryd.func45, Tryd.ntmps45
        go_wp2_with fail
        refine (isFraction_any b _).mono ?_
        rw [h1]
        rintro e w2 ⟨rfl, hq⟩
        go_wp2_with fail
        refine (within_any a 15 20 _).mono ?_
        rw [h3]
        rintro e w3 ⟨rfl, hq3⟩
        clear h1 h2 h3
        go_wp2_with fail
        go_ret
        exact ⟨ret_bool (by rw [HX.out]; rfl), hq.trans hq3⟩
  · go_enter Tryd.func45, Tryd.ntmps45
    go_wp2_with fail
    refine (isFraction_any b _).mono ?_
    rw [h1]
    rintro e w2 ⟨rfl, hq⟩
    go_wp2_with fail
    refine (isSecond_any a _).mono ?_
    rintro e w3 ⟨rfl, hq3⟩
    clear h1
    go_wp2_with fail
    go_ret
    exact ⟨ret_bool (by rw [HX.out]; rfl), hq.trans hq3⟩

/-- the cells of pieces, one behind the other -/
structure PCell (w : World) (b o : Nat) (p : Fs.Piece) : Prop where
  c0 : w.cell? ⟨b, o, none⟩ = some (.int .i64 p.kind)
  c1 : w.cell? ⟨b, o + 1, none⟩ = some (.string ⟨p.text.toArray⟩)
  c2 : w.cell? ⟨b, o + 2, none⟩ = some (.int .i64 p.n)
  c3 : w.cell? ⟨b, o + 3, none⟩ = some (.bool p.comma)
theorem PCell.below {w w' : World} {b o : Nat} {p : Fs.Piece} (h : PCell w b o p) (hb : Below w.heap.size w w') : PCell w' b o p :=
  ⟨Below.cellk hb h.c0, Below.cellk hb h.c1, Below.cellk hb h.c2, Below.cellk hb h.c3⟩
def PC (w : World) (ao : Option Addr) (ps : List Fs.Piece) : Prop := ps = [] ∨ ∃ b off, ao = some ⟨b, off, none⟩ ∧ ∀ k (h : k < ps.length), PCell w b (off + k * 4) ps[k]
theorem PC.below {w w' : World} {ao : Option Addr} {ps : List Fs.Piece} (h : PC w ao ps) (hb : Below w.heap.size w w') : PC w' ao ps := by
  rcases h with h | ⟨b, off, e, h⟩
  · exact .inl h
  · exact .inr ⟨b, off, e, fun k hk => (h k hk).below hb⟩

theorem drop_get {ps : List Fs.Piece} {k : Nat} (h : k < ps.length) : ps.drop k = ps[k] :: ps.drop (k + 1) := List.drop_eq_getElem_cons h

set_option maxHeartbeats 1000000 in
theorem zzFits1_any (ao : Option Addr) (cap : Nat) (ps : List Fs.Piece) (w : World) (H : PC w ao ps) (hlen : ps.length ≤ 9223372036854775807) : Calls Tryd.prog 21 #[.slice ao ps.length cap] w fun e w' => e = .returned (.bool (Fs.fits ps)) ∧ Below w.heap.size w w' := by
  by_cases hz : (2147483647 : Int) < ps.length
  · have HX : Hid (Fs.fits ps = false) := by show _ = _; simp [Fs.fits]; omega
    go_enter Tryd.func21, Tryd.ntmps21
    go_wp2_with fail
    go_ret
    exact ⟨ret_bool HX.out.symm, Below.refl _ _⟩
  · have HX : Hid (Fs.fits ps = ps.all fun p => decide (p.text.length ≤ 2147483647)) := by show _ = _; unfold Fs.fits; rw [decide_eq_true (by omega)]; rfl
    go_enter Tryd.func21, Tryd.ntmps21
    go_wp2_with fail
    go_loopw [10] (fun i wr => ∃ k : Nat, k ≤ ps.length ∧ i = .int .i64 k ∧ Below w.heap.size w wr ∧ Hid (Fs.fits ps = (ps.drop k).all fun p => decide (p.text.length ≤ 2147483647)))
      (fun i _ => ps.length - (intOf i).toNat)
    case atStart => exact ⟨0, Nat.zero_le _, rfl, Below.refl _ _, by rw [List.drop_zero]; exact HX⟩
    case round =>
      obtain ⟨k, hk, rfl, hb, HR⟩ := hrel
      by_cases hlt : k < ps.length
      · obtain ⟨b, off, rfl, hc⟩ : ∃ b off, ao = some ⟨b, off, none⟩ ∧ ∀ k (h : k < ps.length), PCell w b (off + k * 4) ps[k] := by
          rcases H with h | h
          · rw [h] at hlt; exact absurd hlt (by simp)
          · exact h
        have hcr := (hc k hlt).below hb
        clear hc H
        obtain ⟨c0, c1, c2, c3⟩ := hcr
        obtain ⟨⟨K, T, N, C⟩, hp⟩ : ∃ p, ps[k] = p := ⟨_, rfl⟩
        have HD : Hid (ps.drop k = ⟨K, T, N, C⟩ :: ps.drop (k + 1)) := by show _ = _; rw [drop_get hlt, hp]
        rw [hp] at c0 c1 c2 c3
        simp only at c0 c1 c2 c3
        clear hp
        have hb0 := hb.trans (((Below.refl wr.heap.size wr).alloc (Nat.le_refl _) (Obj.cells #[.int .i64 K, .string ⟨List.toArray T⟩, .int .i64 N, .bool C] 34)).mono hb.size)
        have hbs := hb.size
        by_cases hT : T.length ≤ 2147483647
        · have HR2 : Hid (Fs.fits ps = (ps.drop (k + 1)).all fun p => decide (p.text.length ≤ 2147483647)) := by
            show _ = _
            rw [HR.out, HD.out]; simp [hT]
          go_wp2_with fail
          refine (zzFits2_any K T N C _).mono ?_
          rw [decide_eq_true hT]
          rintro e w2 ⟨rfl, hq⟩
          have hb2 := hb0.trans (hq.mono (by simp; omega))
          clear hq hb0 hb c0 c1 c2 c3 hT HD HR
          go_wp2_with fail
          go_roundw
          case rel => exact ⟨k + 1, by omega, by go_num, hb2, HR2⟩
          case measure => simp [intOf]; omega
        · have HR2 : Hid (Fs.fits ps = false) := by
            show _ = _
            rw [HR.out, HD.out]; simp [hT]
          go_wp2_with fail
          refine (zzFits2_any K T N C _).mono ?_
          rw [decide_eq_false hT]
          rintro e w2 ⟨rfl, hq⟩
          have hb2 := hb0.trans (hq.mono (by simp; omega))
          clear hq hb0 hb c0 c1 c2 c3 hT HD HR
          go_wp2_with fail
          go_ret
          exact ⟨ret_bool HR2.out.symm, hb2⟩
      · have hkl : k = ps.length := by omega
        subst hkl
        have HR2 : Hid (Fs.fits ps = true) := by
          show _ = _
          rw [HR.out]; simp
        clear hlt
        have hnl : ¬ ((ps.length : Int) < ps.length) := by omega
        go_wp2_with fail
        go_ret
        exact ⟨ret_bool HR2.out.symm, hb⟩

/-- the text of the first k pieces -/
theorem layout_snoc {ps : List Fs.Piece} {k : Nat} {p : Fs.Piece} (h : ps.drop k = p :: ps.drop (k + 1)) : Fs.layout (ps.take (k + 1)) = Fs.layout (ps.take k) ++ Fs.element p := by
  have hk : k < ps.length := by
    by_cases hk : k < ps.length
    · exact hk
    · rw [List.drop_of_length_le (by omega)] at h; cases h
  have hp : ps[k] = p := by
    rw [List.drop_eq_getElem_cons hk] at h
    exact (List.cons.inj h).1
  rw [List.take_succ_eq_append_getElem hk, hp]
  simp [Fs.layout]
theorem layout_len : ∀ {ps : List Fs.Piece}, (∀ p ∈ ps, Fs.pieceOk p = true) → (Fs.layout ps).length ≤ ps.length * 1000
  | [], _ => by simp [Fs.layout]
  | p :: r, h => by
    have h1 := Fs.element_len (h p (by simp))
    have h2 := layout_len (ps := r) (fun q hq => h q (by simp [hq]))
    have e : Fs.layout (p :: r) = Fs.element p ++ Fs.layout r := by simp [Fs.layout]
    rw [e]
    simp
    omega

set_option maxHeartbeats 1000000 in
theorem Layout_any (ao : Option Addr) (cap : Nat) (ps : List Fs.Piece) (w : World) (H : PC w ao ps) (hlen : ps.length ≤ 100) (hok : ∀ p ∈ ps, Fs.pieceOk p = true) : Calls Tryd.prog 23 #[.slice ao ps.length cap] w fun e w' => e = .returned (.string ⟨(Fs.layout ps).toArray⟩) ∧ Below w.heap.size w w' := by
  have HOK := hide hok
  clear hok
  go_enter Tryd.func23, Tryd.ntmps23
  go_wp2_with fail
  go_loopw [3, 4] (fun s i wr => ∃ k : Nat, k ≤ ps.length ∧ i = .int .i64 k ∧ s = .string ⟨(Fs.layout (ps.take k)).toArray⟩ ∧ Below w.heap.size w wr)
    (fun _ i _ => ps.length - (intOf i).toNat)
  case atStart => exact ⟨0, Nat.zero_le _, rfl, rfl, Below.refl _ _⟩
  case round =>
    obtain ⟨k, hk, rfl, rfl, hb⟩ := hrel
    by_cases hlt : k < ps.length
    · obtain ⟨b, off, rfl, hc⟩ : ∃ b off, ao = some ⟨b, off, none⟩ ∧ ∀ k (h : k < ps.length), PCell w b (off + k * 4) ps[k] := by
        rcases H with h | h
        · rw [h] at hlt; exact absurd hlt (by simp)
        · exact h
      have hcr := (hc k hlt).below hb
      clear hc H
      obtain ⟨c0, c1, c2, c3⟩ := hcr
      obtain ⟨p, hp⟩ : ∃ p, ps[k] = p := ⟨_, rfl⟩
      have HD : Hid (ps.drop k = p :: ps.drop (k + 1)) := by show _ = _; rw [drop_get hlt, hp]
      have HP : Hid (Fs.pieceOk p = true) := by show _ = _; exact HOK.out p (by rw [← hp]; exact List.getElem_mem hlt)
      have hL1 : (Fs.layout (ps.take k)).length ≤ 100000 := by
        have := layout_len (ps := ps.take k) (fun q hq => HOK.out q (List.mem_of_mem_take hq))
        simp at this
        omega
      have hL2 : (Fs.element p).length ≤ 1000 := Fs.element_len HP.out
      have HS := hide (layout_snoc HD.out)
      rw [hp] at c0 c1 c2 c3
      clear hp HOK
      have hEL := hide (fun W => element_any p HP.out W)
      generalize Fs.element p = el at hEL HS hL2
      generalize Fs.layout (ps.take k) = sofar at HS hL1
      obtain ⟨K, T, N, C⟩ := p
      simp only at c0 c1 c2 c3
      go_wp2_with fail
      refine (hEL.out _).mono ?_
      rintro e w2 ⟨rfl, hq⟩
      have hb2 := hb.trans (hq.mono hb.size)
      clear hq hb c0 c1 c2 c3 hEL
      go_wp2_with fail
      go_roundw
      case rel => exact ⟨k + 1, by omega, by go_num, by rw [HS.out], hb2⟩
      case measure => simp [intOf]; omega
    · have hkl : k = ps.length := by omega
      subst hkl
      clear hlt
      have hnl : ¬ ((ps.length : Int) < ps.length) := by omega
      go_wp2_with fail
      go_ret
      exact ⟨rfl, hb⟩
end Go.Proofs.YtjkfjlifcilejaaDoor
