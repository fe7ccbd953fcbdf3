/-
  WALKS, part c: zone abbreviations.
-/
import Derived.Test.YtgcjhakhepgjlaaDoorWb
namespace Go.Proofs.YtgcjhakhepgjlaaDoor
open Go.RowKit
set_option linter.unusedVariables false
attribute [local go_sem] ByteArray.extract_mk get_mk ByteArray.toList_mk ByteArray.mk_append_mk take_drop_len

def tzV (p : Nat × Bool) : Value := .tuple #[.int .i64 p.1, .bool p.2]
theorem tzV_of {p : Nat × Bool} {n : Nat} {b : Bool} (h : p = (n, b)) : Value.tuple #[.int .i64 n, .bool b] = tzV p := by subst h; rfl
theorem tz_few {l : List UInt8} (h : l.length < 3) : Fs.tz l = (0, false) := by simp [Fs.tz, h]
theorem tz_chst {l : List UInt8} (h3 : 3 ≤ l.length) (h : l.take 4 = [67, 104, 83, 84] ∨ l.take 4 = [77, 101, 83, 84]) : Fs.tz l = (4, true) := by
  unfold Fs.tz; rw [if_neg (by omega), if_pos h]
theorem tz_gmt {l : List UInt8} (h3 : 3 ≤ l.length) (h : ¬ (l.take 4 = [67, 104, 83, 84] ∨ l.take 4 = [77, 101, 83, 84])) (hg : l.take 3 = [71, 77, 84]) : Fs.tz l = (Fs.gmtLen l, true) := by
  unfold Fs.tz; rw [if_neg (by omega), if_neg h, if_pos hg]
theorem tz_sign {l : List UInt8} (h3 : 3 ≤ l.length) (h : ¬ (l.take 4 = [67, 104, 83, 84] ∨ l.take 4 = [77, 101, 83, 84])) (hg : ¬ l.take 3 = [71, 77, 84]) (hs : l[0]? = some 43 ∨ l[0]? = some 45) : Fs.tz l = (Fs.signedLen l, decide (0 < Fs.signedLen l)) := by
  unfold Fs.tz; rw [if_neg (by omega), if_neg h, if_neg hg, if_pos hs]
theorem tz_up {l : List UInt8} (h3 : 3 ≤ l.length) (h : ¬ (l.take 4 = [67, 104, 83, 84] ∨ l.take 4 = [77, 101, 83, 84])) (hg : ¬ l.take 3 = [71, 77, 84]) (hs : ¬ (l[0]? = some 43 ∨ l[0]? = some 45)) : Fs.tz l = Fs.tzU l (Fs.uppers 6 l) := by
  unfold Fs.tz; rw [if_neg (by omega), if_neg h, if_neg hg, if_neg hs]

theorem upper_step {l : List UInt8} {k : Nat} (hk : k < l.length) (h6 : k < 6) (h : k + Fs.uppers (6 - k) (l.drop k) = Fs.uppers 6 l) (hu : Fs.isUp (l[k]'hk) = true) :
    (k + 1) + Fs.uppers (6 - (k + 1)) (l.drop (k + 1)) = Fs.uppers 6 l := by
  rw [← h, List.drop_eq_getElem_cons hk]
  obtain ⟨m, hm⟩ : ∃ m, 6 - k = m + 1 := ⟨5 - k, by omega⟩
  have h5 : 6 - (k + 1) = m := by omega
  rw [hm, h5]
  simp only [Fs.uppers, hu, if_true]
  omega
theorem upper_stop {l : List UInt8} {k : Nat} (hk : k < l.length) (h : k + Fs.uppers (6 - k) (l.drop k) = Fs.uppers 6 l) (hu : Fs.isUp (l[k]'hk) = false) : Fs.uppers 6 l = k := by
  rw [← h, List.drop_eq_getElem_cons hk]
  rcases (6 - k) with _ | m <;> simp [Fs.uppers, hu]
theorem upper_six {l : List UInt8} (h : 6 + Fs.uppers (6 - 6) (l.drop 6) = Fs.uppers 6 l) : Fs.uppers 6 l = 6 := by
  rw [← h]; simp [Fs.uppers]
theorem upper_end {l : List UInt8} (h : l.length + Fs.uppers (6 - l.length) (l.drop l.length) = Fs.uppers 6 l) : Fs.uppers 6 l = l.length := by
  rw [← h, List.drop_length]
  rcases (6 - l.length) with _ | m <;> simp [Fs.uppers]

/-- THE SWITCH BEHIND THE LOOP, once for each way out of it. -/
theorem tzU_three (l : List UInt8) : Fs.tzU l 3 = (3, true) := rfl
theorem tzU_few (l : List UInt8) (k : Nat) (h : k ≤ 2 ∨ 6 ≤ k) : Fs.tzU l k = (0, false) := by
  unfold Fs.tzU; split <;> first | omega | rfl
theorem tzU_four_yes (l : List UInt8) (h : 3 < l.length) (hc : (l[3].toNat : Int) = 84 ∨ l.take 4 = [87, 73, 84, 65]) : Fs.tzU l 4 = (4, true) := by
  have : l[3]? = some 84 ∨ l.take 4 = [87, 73, 84, 65] := by
    rcases hc with hc | hc
    · left; rw [List.getElem?_eq_getElem h]; congr 1; apply UInt8.toNat_inj.1; show _ = 84; omega
    · exact .inr hc
  simp only [Fs.tzU, if_pos this]
theorem tzU_four_no (l : List UInt8) (h : 3 < l.length) (hc : ¬ (l[3].toNat : Int) = 84) (hd : ¬ l.take 4 = [87, 73, 84, 65]) : Fs.tzU l 4 = (0, false) := by
  have : ¬ (l[3]? = some 84 ∨ l.take 4 = [87, 73, 84, 65]) := by
    rintro (h1 | h1)
    · rw [List.getElem?_eq_getElem h] at h1; injection h1 with h1; exact hc (by rw [h1]; rfl)
    · exact hd h1
  simp only [Fs.tzU, if_neg this]
theorem tzU_five_yes (l : List UInt8) (h : 4 < l.length) (hc : (l[4].toNat : Int) = 84) : Fs.tzU l 5 = (5, true) := by
  have : l[4]? = some 84 := by
    rw [List.getElem?_eq_getElem h]; congr 1; apply UInt8.toNat_inj.1; show _ = 84; omega
  simp only [Fs.tzU, if_pos this]
theorem tzU_five_no (l : List UInt8) (h : 4 < l.length) (hc : ¬ (l[4].toNat : Int) = 84) : Fs.tzU l 5 = (0, false) := by
  have : ¬ (l[4]? = some 84) := by
    intro h1; rw [List.getElem?_eq_getElem h] at h1; injection h1 with h1; exact hc (by rw [h1]; rfl)
  simp only [Fs.tzU, if_neg this]

end Go.Proofs.YtgcjhakhepgjlaaDoor
