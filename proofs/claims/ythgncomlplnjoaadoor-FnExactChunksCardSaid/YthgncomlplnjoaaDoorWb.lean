/-
  WALKS, part b: atoi, signed offsets, zone abbreviations, fractions.
-/
import Derived.Test.YthgncomlplnjoaaDoorWa
namespace Go.Proofs.YthgncomlplnjoaaDoor
open Go.RowKit
set_option linter.unusedVariables false
attribute [local go_sem] ByteArray.extract_mk get_mk ByteArray.toList_mk ByteArray.mk_append_mk take_drop_len

theorem w64_wrap (n : Int) : Fs.w64 n = wrap64 n := by unfold Fs.w64 wrap64; rfl

def atoiV (ev : Value) : Option Int → Value
  | some x => .tuple #[.int .i64 x, .nilIface]
  | none => .tuple #[.int .i64 0, ev]

theorem atoiV_yes {ev : Value} {o : Option Int} {x : Int} (h : o = some x) : Value.tuple #[.int .i64 x, .nilIface] = atoiV ev o := by subst h; rfl
theorem atoiV_no {ev : Value} {o : Option Int} (h : o = none) : Value.tuple #[.int .i64 0, ev] = atoiV ev o := by subst h; rfl

set_option maxHeartbeats 400000 in
theorem atoi_any (l : List UInt8) (hl : l.length ≤ 140737488351230) (w : World) (a b : Addr) (ha : w.cell? ⟨0, 0, none⟩ = some (.iface 60 (.pointer (some a)))) (hb : w.cell? ⟨3, 0, none⟩ = some (.iface 60 (.pointer (some b)))) :
    Calls Tryd.prog 32 #[.string ⟨l.toArray⟩] w fun e w' => e = .returned (atoiV (.iface 60 (.pointer (some a))) (Fs.atoi l)) ∧ Qt w w' := by
  rcases l with _ | ⟨c, t⟩
  · go_enter Tryd.func32, Tryd.ntmps32
    go_wp2_with fail
    refine (lead_yes [] _ (by simp) _ hb (x := 0) (r := []) rfl).mono ?_
    rintro e w' ⟨rfl, n, rfl⟩
    go_wp2
    go_ret2
    exact ⟨rfl, (Qt.refl _).drewN _⟩
  · simp only [List.length_cons] at hl
    by_cases h1 : c.toNat = 45
    · have b1 : ((c.toNat : Int) == 45) = true := by rw [beq_iff_eq]; omega
      have HS : Hid (Fs.sign (c :: t) = (true, t)) := by
        have : c = 45 := UInt8.toNat_inj.1 h1
        subst this; rfl
      clear h1
      go_enter Tryd.func32, Tryd.ntmps32
      go_wp2_with fail
      rcases h : Fs.lead 0 t with _ | ⟨x, _ | ⟨d, r⟩⟩
      · refine (lead_no t _ (by omega) _ hb h).mono ?_
        have HL := hide h
        clear h
        rintro e w' ⟨rfl, n, rfl⟩
        go_wp2
        go_quiet (fail)
        go_wp2
        go_ret2
        exact ⟨congrArg _ (atoiV_no (Fs.atoi_none HS.out HL.out)), ((Qt.refl _).drewN _).drewN _⟩
      · refine (lead_yes t _ (by omega) _ hb h).mono ?_
        have HL := hide h
        clear h
        rintro e w' ⟨rfl, n, rfl⟩
        go_wp2
        go_ret2
        exact ⟨congrArg _ (atoiV_yes ((Fs.atoi_neg HS.out HL.out).trans (by rw [w64_wrap, w64_wrap]))), (Qt.refl _).drewN _⟩
      · refine (lead_yes t _ (by omega) _ hb h).mono ?_
        have HL := hide h
        clear h
        rintro e w' ⟨rfl, n, rfl⟩
        go_wp2
        go_quiet (fail)
        go_wp2
        go_ret2
        exact ⟨congrArg _ (atoiV_no (Fs.atoi_rest HS.out HL.out)), ((Qt.refl _).drewN _).drewN _⟩
    · have b1 : ((c.toNat : Int) == 45) = false := by rw [beq_eq_false_iff_ne]; omega
      by_cases h2 : c.toNat = 43
      · have b2 : ((c.toNat : Int) == 43) = true := by rw [beq_iff_eq]; omega
        have HS : Hid (Fs.sign (c :: t) = (false, t)) := by
          have : c = 43 := UInt8.toNat_inj.1 h2
          subst this; rfl
        clear h1 h2
        go_enter Tryd.func32, Tryd.ntmps32
        go_wp2_with fail
        rcases h : Fs.lead 0 t with _ | ⟨x, _ | ⟨d, r⟩⟩
        · refine (lead_no t _ (by omega) _ hb h).mono ?_
          have HL := hide h
          clear h
          rintro e w' ⟨rfl, n, rfl⟩
          go_wp2
          go_quiet (fail)
          go_wp2
          go_ret2
          exact ⟨congrArg _ (atoiV_no (Fs.atoi_none HS.out HL.out)), ((Qt.refl _).drewN _).drewN _⟩
        · refine (lead_yes t _ (by omega) _ hb h).mono ?_
          have HL := hide h
          clear h
          rintro e w' ⟨rfl, n, rfl⟩
          go_wp2
          go_ret2
          exact ⟨congrArg _ (atoiV_yes ((Fs.atoi_pos HS.out HL.out).trans (by rw [w64_wrap]))), (Qt.refl _).drewN _⟩
        · refine (lead_yes t _ (by omega) _ hb h).mono ?_
          have HL := hide h
          clear h
          rintro e w' ⟨rfl, n, rfl⟩
          go_wp2
          go_quiet (fail)
          go_wp2
          go_ret2
          exact ⟨congrArg _ (atoiV_no (Fs.atoi_rest HS.out HL.out)), ((Qt.refl _).drewN _).drewN _⟩
      · have b2 : ((c.toNat : Int) == 43) = false := by rw [beq_eq_false_iff_ne]; omega
        have HS : Hid (Fs.sign (c :: t) = (false, c :: t)) := by
          have g1 : ¬ c = 45 := fun e => h1 (by rw [e]; rfl)
          have g2 : ¬ c = 43 := fun e => h2 (by rw [e]; rfl)
          show Fs.sign (c :: t) = _
          simp [Fs.sign, g1, g2]
        clear h1 h2
        go_enter Tryd.func32, Tryd.ntmps32
        go_wp2_with fail
        rcases h : Fs.lead 0 (c :: t) with _ | ⟨x, _ | ⟨d, r⟩⟩
        · refine (lead_no (c :: t) _ (by simp; omega) _ hb h).mono ?_
          have HL := hide h
          clear h
          rintro e w' ⟨rfl, n, rfl⟩
          go_wp2
          go_quiet (fail)
          go_wp2
          go_ret2
          exact ⟨congrArg _ (atoiV_no (Fs.atoi_none HS.out HL.out)), ((Qt.refl _).drewN _).drewN _⟩
        · refine (lead_yes (c :: t) _ (by simp; omega) _ hb h).mono ?_
          have HL := hide h
          clear h
          rintro e w' ⟨rfl, n, rfl⟩
          go_wp2
          go_ret2
          exact ⟨congrArg _ (atoiV_yes ((Fs.atoi_pos HS.out HL.out).trans (by rw [w64_wrap]))), (Qt.refl _).drewN _⟩
        · refine (lead_yes (c :: t) _ (by simp; omega) _ hb h).mono ?_
          have HL := hide h
          clear h
          rintro e w' ⟨rfl, n, rfl⟩
          go_wp2
          go_quiet (fail)
          go_wp2
          go_ret2
          exact ⟨congrArg _ (atoiV_no (Fs.atoi_rest HS.out HL.out)), ((Qt.refl _).drewN _).drewN _⟩

theorem signedLen_mark {c : UInt8} {t : List UInt8} (h : c.toNat = 45 ∨ c.toNat = 43) : Fs.signedLen (c :: t) = match Fs.lead 0 t with
    | some (x, r) => if t = r then 0 else if 23 < x then 0 else (c :: t).length - r.length
    | none => 0 := by
  have : c = 45 ∨ c = 43 := by
    rcases h with h | h
    · exact .inl (UInt8.toNat_inj.1 h)
    · exact .inr (UInt8.toNat_inj.1 h)
  simp only [Fs.signedLen, if_pos this]
  rfl

set_option maxHeartbeats 400000 in
theorem signed_any (c : UInt8) (t : List UInt8) (hl : t.length ≤ 140737488351230) (w : World) (E : HLead w) :
    Calls Tryd.prog 33 #[.string ⟨(c :: t).toArray⟩] w fun e w' => e = .returned (.int .i64 (Fs.signedLen (c :: t))) ∧ Qt w w' := by
  obtain ⟨b, hb⟩ := E
  by_cases h0 : c.toNat = 45 ∨ c.toNat = 43
  · have HS := hide (signedLen_mark (t := t) h0)
    have b4 : ((c.toNat : Int) != 45) = false ∨ (((c.toNat : Int) != 45) = true ∧ ((c.toNat : Int) != 43) = false) := by simp; omega
    clear h0
    rcases h : Fs.lead 0 t with _ | ⟨x, r⟩
    · have HR : Hid (Fs.signedLen (c :: t) = 0) := by show _ = _; rw [HS.out, h]
      rcases b4 with b4 | ⟨b4, b5⟩
      all_goals
        go_enter Tryd.func33, Tryd.ntmps33
        go_wp2_with fail
        refine (lead_no t _ (by omega) _ hb h).mono ?_
        rintro e w2 ⟨rfl, hq⟩
        go_wp2
        go_ret
        exact ⟨ret_int (by rw [HR.out]; rfl), hq⟩
    · have hbd := Fs.lead_bd t 0 (by omega) x r h
      obtain ⟨hb1, hb2⟩ := hbd
      by_cases he : t = r
      · have HR : Hid (Fs.signedLen (c :: t) = 0) := by show _ = _; rw [HS.out, h]; simp [he]
        subst he
        rcases b4 with b4 | ⟨b4, b5⟩
        all_goals
          go_enter Tryd.func33, Tryd.ntmps33
          go_wp2_with fail
          refine (lead_yes t _ (by omega) _ hb h).mono ?_
          rintro e w2 ⟨rfl, hq⟩
          go_wp2
          go_ret
          exact ⟨ret_int (by rw [HR.out]; rfl), hq⟩
      · have be : (t == r) = false := by simpa using he
        by_cases hx : 23 < x
        · have HR : Hid (Fs.signedLen (c :: t) = 0) := by show _ = _; rw [HS.out, h]; simp [he, hx]
          have hx' : (23 : Int) < x := by omega
          clear he
          rcases b4 with b4 | ⟨b4, b5⟩
          all_goals
            go_enter Tryd.func33, Tryd.ntmps33
            go_wp2_with fail
            refine (lead_yes t _ (by omega) _ hb h).mono ?_
            rintro e w2 ⟨rfl, hq⟩
            go_wp2
            go_ret
            exact ⟨ret_int (by rw [HR.out]; rfl), hq⟩
        · have HR : Hid (Fs.signedLen (c :: t) = (c :: t).length - r.length) := by show _ = _; rw [HS.out, h]; simp [he, hx]
          have hx' : ¬ (23 : Int) < x := by omega
          clear he
          rcases b4 with b4 | ⟨b4, b5⟩
          all_goals
            go_enter Tryd.func33, Tryd.ntmps33
            go_wp2_with fail
            refine (lead_yes t _ (by omega) _ hb h).mono ?_
            rintro e w2 ⟨rfl, hq⟩
            go_wp2
            go_ret
            exact ⟨ret_int (by rw [HR.out]; simp; omega), hq⟩
  · have b1 : ((c.toNat : Int) != 45) = true := by simp; omega
    have b2 : ((c.toNat : Int) != 43) = true := by simp; omega
    have HR : Hid (Fs.signedLen (c :: t) = 0) := by
      show _ = _
      simp only [Fs.signedLen]
      rw [if_neg]
      rintro (rfl | rfl)
      · exact h0 (.inl rfl)
      · exact h0 (.inr rfl)
    go_enter Tryd.func33, Tryd.ntmps33
    go_wp2_with fail
    go_ret
    exact ⟨ret_int (by rw [HR.out]; rfl), Qt.refl _⟩

set_option maxHeartbeats 400000 in
theorem gmt_any (l : List UInt8) (hl : l.length ≤ 140737488351230) (h3 : 3 ≤ l.length) (w : World) (E : HLead w) :
    Calls Tryd.prog 34 #[.string ⟨l.toArray⟩] w fun e w' => e = .returned (.int .i64 (Fs.gmtLen l)) ∧ Qt w w' := by
  by_cases hq : l.length = 3
  · have h1 : ((((l.length - 3 : Nat) : Int)) == 0) = true := by simp; omega
    have HE : Hid (Fs.gmtLen l = 3) := by show _ = _; simp [Fs.gmtLen, hq]
    clear hq
    go_enter Tryd.func34, Tryd.ntmps34
    go_wp2_with fail
    go_ret
    exact ⟨ret_int (by rw [HE.out]; rfl), Qt.refl _⟩
  · have h1 : ((((l.length - 3 : Nat) : Int)) == 0) = false := by simp; omega
    have HE : Hid (Fs.gmtLen l = 3 + Fs.signedLen (l.drop 3)) := by show _ = _; simp [Fs.gmtLen, hq]
    have hq' : 3 < l.length := by omega
    have hs := Fs.signedLen_le (l.drop 3)
    rw [List.length_drop] at hs
    clear hq
    go_enter Tryd.func34, Tryd.ntmps34
    go_wp2_with fail
    have hd := List.drop_eq_getElem_cons hq'
    generalize l[3] = c at hd
    generalize List.drop (3 + 1) l = t at hd
    have hlen : (l.drop 3).length = (c :: t).length := by rw [hd]
    simp only [List.length_drop, List.length_cons] at hlen
    rw [hd] at HE hs ⊢
    refine (signed_any c t (by omega) _ E).mono ?_
    clear hlen hd
    rintro e w2 ⟨rfl, hq⟩
    go_wp2
    go_ret
    exact ⟨ret_int (by rw [HE.out]; rfl), hq⟩

end Go.Proofs.YthgncomlplnjoaaDoor
