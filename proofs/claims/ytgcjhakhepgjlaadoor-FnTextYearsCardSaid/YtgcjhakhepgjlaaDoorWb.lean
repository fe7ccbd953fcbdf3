/-
  WALKS, part b: atoi, signed offsets, zone abbreviations, fractions.
-/
import Derived.Test.YtgcjhakhepgjlaaDoorWa
namespace Go.Proofs.YtgcjhakhepgjlaaDoor
open Go.RowKit
set_option linter.unusedVariables false
attribute [local go_sem] ByteArray.extract_mk get_mk ByteArray.toList_mk ByteArray.mk_append_mk take_drop_len

theorem w64_wrap (n : Int) : Fs.w64 n = wrap64 n := by unfold Fs.w64 wrap64; rfl

def atoiV (ev : Value) : Option Int → Value
  | some x => .tuple #[.int .i64 x, .nilIface]
  | none => .tuple #[.int .i64 0, ev]

theorem atoiV_yes {ev : Value} {o : Option Int} {x : Int} (h : o = some x) : Value.tuple #[.int .i64 x, .nilIface] = atoiV ev o := by subst h; rfl
theorem atoiV_no {ev : Value} {o : Option Int} (h : o = none) : Value.tuple #[.int .i64 0, ev] = atoiV ev o := by subst h; rfl

set_option maxHeartbeats 400000 in
theorem atoi_any (l : List UInt8) (hl : l.length ≤ 140737488351230) (w : World) (a b : Addr) (ha : w.cell? ⟨1, 0, none⟩ = some (.iface 100 (.pointer (some a)))) (hb : w.cell? ⟨2, 0, none⟩ = some (.iface 100 (.pointer (some b)))) :
    Calls Tryd.prog 63 #[.string ⟨l.toArray⟩] w fun e w' => e = .returned (atoiV (.iface 100 (.pointer (some a))) (Fs.atoi l)) ∧ Qt w w' := by
  rcases l with _ | ⟨c, t⟩
  · go_enter Tryd.func63, Tryd.ntmps63
    go_wp2_with fail
    refine (lead_yes [] _ (by simp) _ hb (x := 0) (r := []) rfl).mono ?_
    rintro e w' ⟨rfl, n, rfl⟩
    go_wp2
    go_ret2
    exact ⟨rfl, (Qt.refl _).drewN _⟩
  · simp only [List.length_cons] at hl
    by_cases h1 : c.toNat = 45
    · have b1 : ((c.toNat : Int) == 45) = true := by rw [beq_iff_eq]; omega
      have HS : Hid (Fs.sign (c :: t) = (true, t)) := by
        have : c = 45 := UInt8.toNat_inj.1 h1
        subst this; rfl
      clear h1
      go_enter Tryd.func63, Tryd.ntmps63
      go_wp2_with fail
      rcases h : Fs.lead 0 t with _ | ⟨x, _ | ⟨d, r⟩⟩
      · refine (lead_no t _ (by omega) _ hb h).mono ?_
        have HL := hide h
        clear h
        rintro e w' ⟨rfl, n, rfl⟩
        go_wp2
        go_quiet (fail)
        go_wp2
        go_ret2
        exact ⟨congrArg _ (atoiV_no (Fs.atoi_none HS.out HL.out)), ((Qt.refl _).drewN _).drewN _⟩
      · refine (lead_yes t _ (by omega) _ hb h).mono ?_
        have HL := hide h
        clear h
        rintro e w' ⟨rfl, n, rfl⟩
        go_wp2
        go_ret2
        exact ⟨congrArg _ (atoiV_yes ((Fs.atoi_neg HS.out HL.out).trans (by rw [w64_wrap, w64_wrap]))), (Qt.refl _).drewN _⟩
      · refine (lead_yes t _ (by omega) _ hb h).mono ?_
        have HL := hide h
        clear h
        rintro e w' ⟨rfl, n, rfl⟩
        go_wp2
        go_quiet (fail)
        go_wp2
        go_ret2
        exact ⟨congrArg _ (atoiV_no (Fs.atoi_rest HS.out HL.out)), ((Qt.refl _).drewN _).drewN _⟩
    · have b1 : ((c.toNat : Int) == 45) = false := by rw [beq_eq_false_iff_ne]; omega
      by_cases h2 : c.toNat = 43
      · have b2 : ((c.toNat : Int) == 43) = true := by rw [beq_iff_eq]; omega
        have HS : Hid (Fs.sign (c :: t) = (false, t)) := by
          have : c = 43 := UInt8.toNat_inj.1 h2
          subst this; rfl
        clear h1 h2
        go_enter Tryd.func63, Tryd.ntmps63
        go_wp2_with fail
        rcases h : Fs.lead 0 t with _ | ⟨x, _ | ⟨d, r⟩⟩
        · refine (lead_no t _ (by omega) _ hb h).mono ?_
          have HL := hide h
          clear h
          rintro e w' ⟨rfl, n, rfl⟩
          go_wp2
          go_quiet (fail)
          go_wp2
          go_ret2
          exact ⟨congrArg _ (atoiV_no (Fs.atoi_none HS.out HL.out)), ((Qt.refl _).drewN _).drewN _⟩
        · refine (lead_yes t _ (by omega) _ hb h).mono ?_
          have HL := hide h
          clear h
          rintro e w' ⟨rfl, n, rfl⟩
          go_wp2
          go_ret2
          exact ⟨congrArg _ (atoiV_yes ((Fs.atoi_pos HS.out HL.out).trans (by rw [w64_wrap]))), (Qt.refl _).drewN _⟩
        · refine (lead_yes t _ (by omega) _ hb h).mono ?_
          have HL := hide h
          clear h
          rintro e w' ⟨rfl, n, rfl⟩
          go_wp2
          go_quiet (fail)
          go_wp2
          go_ret2
          exact ⟨congrArg _ (atoiV_no (Fs.atoi_rest HS.out HL.out)), ((Qt.refl _).drewN _).drewN _⟩
      · have b2 : ((c.toNat : Int) == 43) = false := by rw [beq_eq_false_iff_ne]; omega
        have HS : Hid (Fs.sign (c :: t) = (false, c :: t)) := by
          have g1 : ¬ c = 45 := fun e => h1 (by rw [e]; rfl)
          have g2 : ¬ c = 43 := fun e => h2 (by rw [e]; rfl)
          show Fs.sign (c :: t) = _
          simp [Fs.sign, g1, g2]
        clear h1 h2
        go_enter Tryd.func63, Tryd.ntmps63
        go_wp2_with fail
        rcases h : Fs.lead 0 (c :: t) with _ | ⟨x, _ | ⟨d, r⟩⟩
        · refine (lead_no (c :: t) _ (by simp; omega) _ hb h).mono ?_
          have HL := hide h
          clear h
          rintro e w' ⟨rfl, n, rfl⟩
          go_wp2
          go_quiet (fail)
          go_wp2
          go_ret2
          exact ⟨congrArg _ (atoiV_no (Fs.atoi_none HS.out HL.out)), ((Qt.refl _).drewN _).drewN _⟩
        · refine (lead_yes (c :: t) _ (by simp; omega) _ hb h).mono ?_
          have HL := hide h
          clear h
          rintro e w' ⟨rfl, n, rfl⟩
          go_wp2
          go_ret2
          exact ⟨congrArg _ (atoiV_yes ((Fs.atoi_pos HS.out HL.out).trans (by rw [w64_wrap]))), (Qt.refl _).drewN _⟩
        · refine (lead_yes (c :: t) _ (by simp; omega) _ hb h).mono ?_
          have HL := hide h
          clear h
          rintro e w' ⟨rfl, n, rfl⟩
          go_wp2
          go_quiet (fail)
          go_wp2
          go_ret2
          exact ⟨congrArg _ (atoiV_no (Fs.atoi_rest HS.out HL.out)), ((Qt.refl _).drewN _).drewN _⟩

theorem signedLen_mark {c : UInt8} {t : List UInt8} (h : c.toNat = 45 ∨ c.toNat = 43) : Fs.signedLen (c :: t) = match Fs.lead 0 t with
    | some (x, r) => if t = r then 0 else if 23 < x then 0 else (c :: t).length - r.length
    | none => 0 := by
  have : c = 45 ∨ c = 43 := by
    rcases h with h | h
    · exact .inl (UInt8.toNat_inj.1 h)
    · exact .inr (UInt8.toNat_inj.1 h)
  simp only [Fs.signedLen, if_pos this]
  rfl

end Go.Proofs.YtgcjhakhepgjlaaDoor
