/-
  WALKS, part d: fractions of a second; the thin package over the small functions.
-/
import Derived.Test.YtgcjhakhepgjlaaDoorWc
namespace Go.Proofs.YtgcjhakhepgjlaaDoor
open Go.RowKit
set_option linter.unusedVariables false
attribute [local go_sem] ByteArray.extract_mk get_mk ByteArray.toList_mk ByteArray.mk_append_mk take_drop_len

/-- what parseNanoseconds answers: nanoseconds, the range's text, an error (bad: of a wrong mark; ea: of a wrong number) -/
def nanoV (bad ea : Value) (l : List UInt8) (n : Nat) : Value :=
  if (l[0]?.any Fs.comma) then (match Fs.nanos l n with
    | some (x, true) => .tuple #[.int .i64 x, .string ⟨[102, 114, 97, 99, 116, 105, 111, 110, 97, 108, 32, 115, 101, 99, 111, 110, 100].toArray⟩, .nilIface]
    | some (x, false) => .tuple #[.int .i64 x, .string ⟨#[]⟩, .nilIface]
    | none => .tuple #[.int .i64 0, .string ⟨#[]⟩, ea])
  else .tuple #[.int .i64 0, .string ⟨#[]⟩, bad]

theorem nanoV_bad {bad ea : Value} {l : List UInt8} {n : Nat} (h : (l[0]?.any Fs.comma) = false) : .tuple #[.int .i64 0, .string ⟨#[]⟩, bad] = nanoV bad ea l n := by
  simp [nanoV, h]
theorem nanoV_ea {bad ea : Value} {l : List UInt8} {n : Nat} (h : (l[0]?.any Fs.comma) = true) (h2 : Fs.atoi (l.tail.take (min n 10 - 1)) = none) : .tuple #[.int .i64 0, .string ⟨#[]⟩, ea] = nanoV bad ea l n := by
  simp [nanoV, Fs.nanos, h, h2]
theorem nanoV_neg {bad ea : Value} {l : List UInt8} {n : Nat} {x : Int} (h : (l[0]?.any Fs.comma) = true) (h2 : Fs.atoi (l.tail.take (min n 10 - 1)) = some x) (h3 : x < 0) :
    .tuple #[.int .i64 x, .string ⟨[102, 114, 97, 99, 116, 105, 111, 110, 97, 108, 32, 115, 101, 99, 111, 110, 100].toArray⟩, .nilIface] = nanoV bad ea l n := by
  simp [nanoV, Fs.nanos, h, h2, h3]
theorem nanoV_pos {bad ea : Value} {l : List UInt8} {n : Nat} {x y : Int} (h : (l[0]?.any Fs.comma) = true) (h2 : Fs.atoi (l.tail.take (min n 10 - 1)) = some x) (h3 : ¬ x < 0) (h4 : y = x * ((10 ^ (10 - min n 10) : Nat) : Int)) :
    .tuple #[.int .i64 y, .string ⟨#[]⟩, .nilIface] = nanoV bad ea l n := by
  subst h4
  simp [nanoV, Fs.nanos, h, h2, h3]

theorem scale_step {x : Int} {m i : Nat} (h0 : 0 ≤ x) (h1 : x < ((10 ^ (m - 1) : Nat) : Int)) (hm : 1 ≤ m) (hm2 : m ≤ 10) (hi : i < 10 - m) :
    0 ≤ x * ((10 ^ i : Nat) : Int) ∧ x * ((10 ^ i : Nat) : Int) < 100000000 := by
  obtain ⟨y, rfl⟩ := Int.eq_ofNat_of_zero_le h0
  have h2 : y < 10 ^ (m - 1) := by omega
  have h3 : y * 10 ^ i < 100000000 := by
    have a : 0 < 10 ^ i := Nat.pos_of_ne_zero (by simp)
    have h4 : y * 10 ^ i < 10 ^ (m - 1) * 10 ^ i := Nat.mul_lt_mul_of_pos_right h2 a
    rw [← Nat.pow_add] at h4
    have h5 : 10 ^ (m - 1 + i) ≤ 10 ^ 8 := Nat.pow_le_pow_right (by omega) (by omega)
    omega
  have e : (y : Int) * ((10 ^ i : Nat) : Int) = ((y * 10 ^ i : Nat) : Int) := by rw [Int.natCast_mul]
  rw [e]
  constructor <;> omega

set_option maxHeartbeats 400000 in
theorem nanos_any (l : List UInt8) (n : Nat) (hn : 1 ≤ n) (hnl : n ≤ l.length) (hl : l.length ≤ 140737488351230) (w : World) (a b : Addr)
    (ha : w.cell? ⟨0, 0, none⟩ = some (.iface 100 (.pointer (some a)))) (hb : w.cell? ⟨1, 0, none⟩ = some (.iface 100 (.pointer (some b)))) (E : HLead w) :
    Calls Tryd.prog 43 #[.string ⟨l.toArray⟩, .int .i64 n] w fun e w' => e = .returned (nanoV (.iface 100 (.pointer (some a))) (.iface 100 (.pointer (some b))) l n) ∧ Qt w w' := by
  obtain ⟨d, hd⟩ := E
  by_cases hc : Fs.comma (l[0]'(by omega)) = true
  · have HC : Hid ((l[0]?.any Fs.comma) = true) := by show _ = _; rw [List.getElem?_eq_getElem (by omega)]; simpa using hc
    have hc' : (!Fs.comma (l[0]'(by omega))) = false := by rw [hc]; rfl
    clear hc
    by_cases h10 : (10 : Int) < n
    · have hd1 : (l.tail.take 9).length ≤ 9 := by simp; omega
      have HM : Hid (l.tail.take (min n 10 - 1) = l.tail.take 9) := by
        have : min n 10 = 10 := by omega
        show _ = _; rw [this]
      go_enter Tryd.func43, Tryd.ntmps43
      go_wp2_with fail
      refine (comma_any _ _).mono ?_
      rintro e w2 ⟨rfl, hq⟩
      have hb2 := hq.cell hb
      have hd2 := hq.cell hd
      go_wp2_with fail
      have et : List.take 9 (List.take 10 l).tail = l.tail.take 9 := by rw [← List.drop_one, List.drop_take, List.drop_one, List.take_take]; rfl
      rw [et]
      refine (atoi_any (l.tail.take 9) (by omega) _ b d hb2 hd2).mono ?_
      clear et
      rcases hx : Fs.atoi (l.tail.take 9) with _ | x
      · rintro e w3 ⟨rfl, hq3⟩
        have HX : Hid (Fs.atoi (l.tail.take (min n 10 - 1)) = none) := by show _ = _; rw [HM.out]; exact hx
        clear hx
        unfold atoiV
        go_wp2_with fail
        go_ret3
        exact ⟨congrArg _ (nanoV_ea HC.out HX.out), hq.trans hq3⟩
      · rintro e w3 ⟨rfl, hq3⟩
        have HX : Hid (Fs.atoi (l.tail.take (min n 10 - 1)) = some x) := by show _ = _; rw [HM.out]; exact hx
        have hbd := Fs.atoi_lt _ (by omega) x hx
        have hpw : 10 ^ (l.tail.take 9).length ≤ 10 ^ (10 - 1) := Nat.pow_le_pow_right (by omega) (by omega)
        clear hx
        unfold atoiV
        by_cases hneg : x < 0
        · clear hbd hpw
          go_wp2_with fail
          go_ret3
          exact ⟨congrArg _ (nanoV_neg HC.out HX.out hneg), hq.trans hq3⟩
        · have hbx : x < ((10 ^ (10 - 1) : Nat) : Int) := by omega
          have HB := hide hbx
          have h0x : 0 ≤ x := by omega
          clear hbd hpw hbx
          go_wp2_with fail
          go_loop [4, 8] (fun v i => v = .int .i64 x ∧ i = .int .i64 0) (fun _ _ => 0)
          case atStart => exact ⟨rfl, rfl⟩
          case round =>
            obtain ⟨rfl, rfl⟩ := hrel
            go_wp2_with fail
            go_ret3
            refine ⟨congrArg _ (nanoV_pos HC.out HX.out (by omega) ?_), hq.trans hq3⟩
            rw [show min n 10 = 10 by omega]; simp
    · have hd1 : (l.tail.take (n - 1)).length ≤ n - 1 := by simp; omega
      have HM : Hid (l.tail.take (min n 10 - 1) = l.tail.take (n - 1)) := by
        have : min n 10 = n := by omega
        show _ = _; rw [this]
      go_enter Tryd.func43, Tryd.ntmps43
      go_wp2_with fail
      refine (comma_any _ _).mono ?_
      rintro e w2 ⟨rfl, hq⟩
      have hb2 := hq.cell hb
      have hd2 := hq.cell hd
      go_wp2_with fail
      refine (atoi_any (l.tail.take (n - 1)) (by omega) _ b d hb2 hd2).mono ?_
      rcases hx : Fs.atoi (l.tail.take (n - 1)) with _ | x
      · rintro e w3 ⟨rfl, hq3⟩
        have HX : Hid (Fs.atoi (l.tail.take (min n 10 - 1)) = none) := by show _ = _; rw [HM.out]; exact hx
        clear hx
        unfold atoiV
        go_wp2_with fail
        go_ret3
        exact ⟨congrArg _ (nanoV_ea HC.out HX.out), hq.trans hq3⟩
      · rintro e w3 ⟨rfl, hq3⟩
        have HX : Hid (Fs.atoi (l.tail.take (min n 10 - 1)) = some x) := by show _ = _; rw [HM.out]; exact hx
        have hbd := Fs.atoi_lt _ (by omega) x hx
        have hpw : 10 ^ (l.tail.take (n - 1)).length ≤ 10 ^ (n - 1) := Nat.pow_le_pow_right (by omega) (by omega)
        clear hx
        unfold atoiV
        by_cases hneg : x < 0
        · clear hbd hpw
          go_wp2_with fail
          go_ret3
          exact ⟨congrArg _ (nanoV_neg HC.out HX.out hneg), hq.trans hq3⟩
        · have hbx : x < ((10 ^ (n - 1) : Nat) : Int) := by omega
          have HB := hide hbx
          have h0x : 0 ≤ x := by omega
          clear hbd hpw hbx
          go_wp2_with fail
          go_loop [4, 8] (fun v i => ∃ k : Nat, k ≤ 10 - n ∧ v = .int .i64 (x * ((10 ^ k : Nat) : Int)) ∧ i = .int .i64 k) (fun _ i => 10 - n - (intOf i).toNat)
          case atStart => exact ⟨0, by omega, by simp, rfl⟩
          case round =>
            obtain ⟨k, hk, rfl, rfl⟩ := hrel
            by_cases hlt : k < 10 - n
            · have hst := scale_step h0x HB.out hn (by omega) hlt
              have HN : Hid (x * ((10 ^ k : Nat) : Int) * 10 = x * ((10 ^ (k + 1) : Nat) : Int)) := by
                show _ = _
                rw [Nat.pow_succ, Int.natCast_mul, Int.mul_assoc]; rfl
              generalize x * ((10 ^ k : Nat) : Int) = y at hst HN ⊢
              obtain ⟨hst1, hst2⟩ := hst
              have hlt' : (k : Int) < 10 - n := by omega
              go_wp2_with fail
              go_round
              case rel => exact ⟨k + 1, by omega, by rw [← HN.out], by go_num⟩
              case measure => simp [intOf]; omega
            · have hge : ¬ (k : Int) < 10 - n := by omega
              have hkk : k = 10 - n := by omega
              have HK := hide hkk
              clear hkk
              generalize hy : x * ((10 ^ k : Nat) : Int) = y
              have HY := hide hy
              clear hy
              go_wp2_with fail
              go_ret3
              refine ⟨congrArg _ (nanoV_pos HC.out HX.out (by omega) ?_), hq.trans hq3⟩
              rw [← HY.out, HK.out, show min n 10 = n by omega]
  · have HC : Hid ((l[0]?.any Fs.comma) = false) := by show _ = _; rw [List.getElem?_eq_getElem (by omega)]; simpa using hc
    have hc' : (!Fs.comma (l[0]'(by omega))) = true := by simpa using hc
    clear hc
    go_enter Tryd.func43, Tryd.ntmps43
    go_wp2_with fail
    refine (comma_any _ _).mono ?_
    rintro e w2 ⟨rfl, hq⟩
    have ha2 := hq.cell ha
    go_wp2_with fail
    go_ret3
    exact ⟨congrArg _ (nanoV_bad HC.out), hq⟩

/-! ### the exports and the thin package -/
theorem atoi_yes (l : List UInt8) (hl : l.length ≤ 140737488351230) (w : World) (a b : Addr) (ha : w.cell? ⟨1, 0, none⟩ = some (.iface 100 (.pointer (some a)))) (hb : w.cell? ⟨2, 0, none⟩ = some (.iface 100 (.pointer (some b)))) {x : Int} (hx : Fs.atoi l = some x) :
    Calls Tryd.prog 63 #[.string ⟨l.toArray⟩] w fun e w' => e = .returned (.tuple #[.int .i64 x, .nilIface]) ∧ Qt w w' := by
  have := atoi_any l hl w a b ha hb
  rw [hx] at this
  exact this
theorem atoi_no (l : List UInt8) (hl : l.length ≤ 140737488351230) (w : World) (a b : Addr) (ha : w.cell? ⟨1, 0, none⟩ = some (.iface 100 (.pointer (some a)))) (hb : w.cell? ⟨2, 0, none⟩ = some (.iface 100 (.pointer (some b)))) (hx : Fs.atoi l = none) :
    Calls Tryd.prog 63 #[.string ⟨l.toArray⟩] w fun e w' => e = .returned (.tuple #[.int .i64 0, .iface 100 (.pointer (some a))]) ∧ Qt w w' := by
  have := atoi_any l hl w a b ha hb
  rw [hx] at this
  exact this

end Go.Proofs.YtgcjhakhepgjlaaDoor
