/-
  WALKS, part n: nextStdChunk, over the model 'Fs.next' (printed by wip/py/gen_next.py).
-/
import Derived.Test.YtgcjhakhepgjlaaDoorWa
import Derived.Test.YtgcjhakhepgjlaaDoorFc
namespace Go.Proofs.YtgcjhakhepgjlaaDoor
open Go.RowKit
set_option linter.unusedVariables false
set_option linter.unusedSimpArgs false
attribute [local go_sem] ByteArray.extract_mk get_mk ByteArray.toList_mk ByteArray.mk_append_mk take_drop_len

def nextV (x : List UInt8 × Int × List UInt8) : Value := .tuple #[.string ⟨x.1.toArray⟩, .int .i64 x.2.1, .string ⟨x.2.2.toArray⟩]
theorem nextV_of {x : List UInt8 × Int × List UInt8} {a b : List UInt8} {s : Int} (h : x = (a, s, b)) : Value.tuple #[.string ⟨a.toArray⟩, .int .i64 s, .string ⟨b.toArray⟩] = nextV x := by subst h; rfl

theorem take_short {l x : List UInt8} {k n : Nat} (hx : x.length = n) (h0 : 0 < n) (h : ¬ (k : Int) + n ≤ l.length) : ¬ List.take n (List.drop k l) = x := by
  intro e
  have := congrArg List.length e
  rw [List.length_take, List.length_drop, hx] at this
  omega
theorem take_long {l x : List UInt8} {k n : Nat} (hx : x.length = n) (h0 : 0 < n) (h : List.take n (List.drop k l) = x) : (k : Int) + n ≤ l.length := by
  have := congrArg List.length h
  rw [List.length_take, List.length_drop, hx] at this
  omega
theorem byte_of_int {c : UInt8} {n : Nat} (h : n < 256) (hc : (c.toNat : Int) = (n : Int)) : c = UInt8.ofNat n := by
  apply UInt8.toNat_inj.1
  rw [UInt8.toNat_ofNat']
  omega
/-- startsWithLowerCase -/
theorem low_any (l : List UInt8) (w : World) (hl : l.length ≤ 140737488351232) :
    Calls Tryd.prog 89 #[.string ⟨l.toArray⟩] w fun e w' => e = .returned (.bool (Fs.low l)) ∧ Qt w w' := by
  rcases l with _ | ⟨c, t⟩
  · go_enter Tryd.func89, Tryd.ntmps89
    go_wp2_with fail
    go_ret
    exact ⟨rfl, Qt.refl _⟩
  · by_cases h1 : 97 ≤ (c.toNat : Int)
    · go_enter Tryd.func89, Tryd.ntmps89
      go_wp2_with fail
      go_ret
      exact ⟨ret_bool (by simp only [Fs.low]; rw [Bool.eq_iff_iff]; simp; omega), Qt.refl _⟩
    · go_enter Tryd.func89, Tryd.ntmps89
      go_wp2_with fail
      go_ret
      exact ⟨ret_bool (by simp only [Fs.low]; rw [Bool.eq_iff_iff]; simp; omega), Qt.refl _⟩

/-- a frame of 654 slots, written out -/
theorem lay654 (a : Act) (hs : a.tmps.size = 654) (hd : a.defers = []) : ∃ u : Nat → Value, (∀ i, a.tmps.getD i undef = u i) ∧ a = ⟨#[u 0, u 1, u 2, u 3, u 4, u 5, u 6, u 7, u 8, u 9, u 10, u 11, u 12, u 13, u 14, u 15, u 16, u 17, u 18, u 19, u 20, u 21, u 22, u 23, u 24, u 25, u 26, u 27, u 28, u 29, u 30, u 31, u 32, u 33, u 34, u 35, u 36, u 37, u 38, u 39, u 40, u 41, u 42, u 43, u 44, u 45, u 46, u 47, u 48, u 49, u 50, u 51, u 52, u 53, u 54, u 55, u 56, u 57, u 58, u 59, u 60, u 61, u 62, u 63, u 64, u 65, u 66, u 67, u 68, u 69, u 70, u 71, u 72, u 73, u 74, u 75, u 76, u 77, u 78, u 79, u 80, u 81, u 82, u 83, u 84, u 85, u 86, u 87, u 88, u 89, u 90, u 91, u 92, u 93, u 94, u 95, u 96, u 97, u 98, u 99, u 100, u 101, u 102, u 103, u 104, u 105, u 106, u 107, u 108, u 109, u 110, u 111, u 112, u 113, u 114, u 115, u 116, u 117, u 118, u 119, u 120, u 121, u 122, u 123, u 124, u 125, u 126, u 127, u 128, u 129, u 130, u 131, u 132, u 133, u 134, u 135, u 136, u 137, u 138, u 139, u 140, u 141, u 142, u 143, u 144, u 145, u 146, u 147, u 148, u 149, u 150, u 151, u 152, u 153, u 154, u 155, u 156, u 157, u 158, u 159, u 160, u 161, u 162, u 163, u 164, u 165, u 166, u 167, u 168, u 169, u 170, u 171, u 172, u 173, u 174, u 175, u 176, u 177, u 178, u 179, u 180, u 181, u 182, u 183, u 184, u 185, u 186, u 187, u 188, u 189, u 190, u 191, u 192, u 193, u 194, u 195, u 196, u 197, u 198, u 199, u 200, u 201, u 202, u 203, u 204, u 205, u 206, u 207, u 208, u 209, u 210, u 211, u 212, u 213, u 214, u 215, u 216, u 217, u 218, u 219, u 220, u 221, u 222, u 223, u 224, u 225, u 226, u 227, u 228, u 229, u 230, u 231, u 232, u 233, u 234, u 235, u 236, u 237, u 238, u 239, u 240, u 241, u 242, u 243, u 244, u 245, u 246, u 247, u 248, u 249, u 250, u 251, u 252, u 253, u 254, u 255, u 256, u 257, u 258, u 259, u 260, u 261, u 262, u 263, u 264, u 265, u 266, u 267, u 268, u 269, u 270, u 271, u 272, u 273, u 274, u 275, u 276, u 277, u 278, u 279, u 280, u 281, u 282, u 283, u 284, u 285, u 286, u 287, u 288, u 289, u 290, u 291, u 292, u 293, u 294, u 295, u 296, u 297, u 298, u 299, u 300, u 301, u 302, u 303, u 304, u 305, u 306, u 307, u 308, u 309, u 310, u 311, u 312, u 313, u 314, u 315, u 316, u 317, u 318, u 319, u 320, u 321, u 322, u 323, u 324, u 325, u 326, u 327, u 328, u 329, u 330, u 331, u 332, u 333, u 334, u 335, u 336, u 337, u 338, u 339, u 340, u 341, u 342, u 343, u 344, u 345, u 346, u 347, u 348, u 349, u 350, u 351, u 352, u 353, u 354, u 355, u 356, u 357, u 358, u 359, u 360, u 361, u 362, u 363, u 364, u 365, u 366, u 367, u 368, u 369, u 370, u 371, u 372, u 373, u 374, u 375, u 376, u 377, u 378, u 379, u 380, u 381, u 382, u 383, u 384, u 385, u 386, u 387, u 388, u 389, u 390, u 391, u 392, u 393, u 394, u 395, u 396, u 397, u 398, u 399, u 400, u 401, u 402, u 403, u 404, u 405, u 406, u 407, u 408, u 409, u 410, u 411, u 412, u 413, u 414, u 415, u 416, u 417, u 418, u 419, u 420, u 421, u 422, u 423, u 424, u 425, u 426, u 427, u 428, u 429, u 430, u 431, u 432, u 433, u 434, u 435, u 436, u 437, u 438, u 439, u 440, u 441, u 442, u 443, u 444, u 445, u 446, u 447, u 448, u 449, u 450, u 451, u 452, u 453, u 454, u 455, u 456, u 457, u 458, u 459, u 460, u 461, u 462, u 463, u 464, u 465, u 466, u 467, u 468, u 469, u 470, u 471, u 472, u 473, u 474, u 475, u 476, u 477, u 478, u 479, u 480, u 481, u 482, u 483, u 484, u 485, u 486, u 487, u 488, u 489, u 490, u 491, u 492, u 493, u 494, u 495, u 496, u 497, u 498, u 499, u 500, u 501, u 502, u 503, u 504, u 505, u 506, u 507, u 508, u 509, u 510, u 511, u 512, u 513, u 514, u 515, u 516, u 517, u 518, u 519, u 520, u 521, u 522, u 523, u 524, u 525, u 526, u 527, u 528, u 529, u 530, u 531, u 532, u 533, u 534, u 535, u 536, u 537, u 538, u 539, u 540, u 541, u 542, u 543, u 544, u 545, u 546, u 547, u 548, u 549, u 550, u 551, u 552, u 553, u 554, u 555, u 556, u 557, u 558, u 559, u 560, u 561, u 562, u 563, u 564, u 565, u 566, u 567, u 568, u 569, u 570, u 571, u 572, u 573, u 574, u 575, u 576, u 577, u 578, u 579, u 580, u 581, u 582, u 583, u 584, u 585, u 586, u 587, u 588, u 589, u 590, u 591, u 592, u 593, u 594, u 595, u 596, u 597, u 598, u 599, u 600, u 601, u 602, u 603, u 604, u 605, u 606, u 607, u 608, u 609, u 610, u 611, u 612, u 613, u 614, u 615, u 616, u 617, u 618, u 619, u 620, u 621, u 622, u 623, u 624, u 625, u 626, u 627, u 628, u 629, u 630, u 631, u 632, u 633, u 634, u 635, u 636, u 637, u 638, u 639, u 640, u 641, u 642, u 643, u 644, u 645, u 646, u 647, u 648, u 649, u 650, u 651, u 652, u 653], []⟩ := by
  refine ⟨fun i => a.tmps.getD i undef, fun _ => rfl, ?_⟩
  obtain ⟨t, d⟩ := a
  obtain rfl : d = [] := hd
  congr 1
  have h : t = ((List.range 654).map fun i => t.getD i undef).toArray := by
    apply Array.ext
    · simpa using hs
    · intro i h1 h2
      simp [Array.getD, h1]
  exact h.trans (by kernel_rfl)

theorem drop_at {l : List UInt8} {k : Nat} (hk : k < l.length) {n : Nat} (hn : n < 256) (hc : (l[k].toNat : Int) = n) : UInt8.ofNat n :: l.drop (k + 1) = l.drop k := by
  rw [List.drop_eq_getElem_cons hk, byte_of_int hn hc]
theorem step_J {l : List UInt8} {k : Nat} (hk : k < l.length) (hc : (l[k].toNat : Int) = 74) : Fs.step (List.drop k l) =
    if List.take 3 (List.drop k l) = [74, 97, 110] then (if List.take 7 (List.drop k l) = [74, 97, 110, 117, 97, 114, 121] then some (0, 257, 7) else if Fs.low (List.drop (k + 3) l) then none else some (0, 258, 3)) else none := by
  have e := drop_at hk (n := 74) (by decide) hc
  rw [← e]
  show Fs.step ((74 : UInt8) :: List.drop (k + 1) l) = _
  simp only [Fs.step, UInt8.reduceOfNat, List.drop_succ_cons, List.drop_drop]
  first | rfl | simp
theorem step_M {l : List UInt8} {k : Nat} (hk : k < l.length) (hc : (l[k].toNat : Int) = 77) : Fs.step (List.drop k l) =
    if List.take 3 (List.drop k l) = [77, 111, 110] then (if List.take 6 (List.drop k l) = [77, 111, 110, 100, 97, 121] then some (0, 261, 6) else if Fs.low (List.drop (k + 3) l) then none else some (0, 262, 3)) else if List.take 3 (List.drop k l) = [77, 83, 84] then some (0, 23, 3) else none := by
  have e := drop_at hk (n := 77) (by decide) hc
  rw [← e]
  show Fs.step ((77 : UInt8) :: List.drop (k + 1) l) = _
  simp only [Fs.step, UInt8.reduceOfNat, List.drop_succ_cons, List.drop_drop]
  first | rfl | simp
theorem step_minus {l : List UInt8} {k : Nat} (hk : k < l.length) (hc : (l[k].toNat : Int) = 45) : Fs.step (List.drop k l) =
    if List.take 7 (List.drop k l) = [45, 48, 55, 48, 48, 48, 48] then some (0, 30, 7) else if List.take 9 (List.drop k l) = [45, 48, 55, 58, 48, 48, 58, 48, 48] then some (0, 33, 9) else if List.take 5 (List.drop k l) = [45, 48, 55, 48, 48] then some (0, 29, 5) else if List.take 6 (List.drop k l) = [45, 48, 55, 58, 48, 48] then some (0, 32, 6) else if List.take 3 (List.drop k l) = [45, 48, 55] then some (0, 31, 3) else none := by
  have e := drop_at hk (n := 45) (by decide) hc
  rw [← e]
  show Fs.step ((45 : UInt8) :: List.drop (k + 1) l) = _
  simp only [Fs.step, UInt8.reduceOfNat, List.drop_succ_cons, List.drop_drop]
  first | rfl | simp
theorem step_zed {l : List UInt8} {k : Nat} (hk : k < l.length) (hc : (l[k].toNat : Int) = 90) : Fs.step (List.drop k l) =
    if List.take 7 (List.drop k l) = [90, 48, 55, 48, 48, 48, 48] then some (0, 25, 7) else if List.take 9 (List.drop k l) = [90, 48, 55, 58, 48, 48, 58, 48, 48] then some (0, 28, 9) else if List.take 5 (List.drop k l) = [90, 48, 55, 48, 48] then some (0, 24, 5) else if List.take 6 (List.drop k l) = [90, 48, 55, 58, 48, 48] then some (0, 27, 6) else if List.take 3 (List.drop k l) = [90, 48, 55] then some (0, 26, 3) else none := by
  have e := drop_at hk (n := 90) (by decide) hc
  rw [← e]
  show Fs.step ((90 : UInt8) :: List.drop (k + 1) l) = _
  simp only [Fs.step, UInt8.reduceOfNat, List.drop_succ_cons, List.drop_drop]
  first | rfl | simp
theorem step_1 {l : List UInt8} {k : Nat} (hk : k < l.length) (hc : (l[k].toNat : Int) = 49) : Fs.step (List.drop k l) =
    if (List.drop (k + 1) l)[0]? = some 53 then some (0, 1036, 2) else some (0, 259, 1) := by
  have e := drop_at hk (n := 49) (by decide) hc
  rw [← e]
  show Fs.step ((49 : UInt8) :: List.drop (k + 1) l) = _
  simp only [Fs.step, UInt8.reduceOfNat, List.drop_succ_cons, List.drop_drop]
  first | rfl | simp
theorem step_2 {l : List UInt8} {k : Nat} (hk : k < l.length) (hc : (l[k].toNat : Int) = 50) : Fs.step (List.drop k l) =
    if List.take 4 (List.drop k l) = [50, 48, 48, 54] then some (0, 275, 4) else some (0, 263, 1) := by
  have e := drop_at hk (n := 50) (by decide) hc
  rw [← e]
  show Fs.step ((50 : UInt8) :: List.drop (k + 1) l) = _
  simp only [Fs.step, UInt8.reduceOfNat, List.drop_succ_cons, List.drop_drop]
  first | rfl | simp
theorem step_us {l : List UInt8} {k : Nat} (hk : k < l.length) (hc : (l[k].toNat : Int) = 95) : Fs.step (List.drop k l) =
    if (List.drop (k + 1) l)[0]? = some 50 then (if List.take 4 (List.drop (k + 1) l) = [50, 48, 48, 54] then some (1, 275, 5) else some (0, 264, 2)) else if List.take 2 (List.drop (k + 1) l) = [95, 50] then some (0, 522, 3) else none := by
  have e := drop_at hk (n := 95) (by decide) hc
  rw [← e]
  show Fs.step ((95 : UInt8) :: List.drop (k + 1) l) = _
  simp only [Fs.step, UInt8.reduceOfNat, List.drop_succ_cons, List.drop_drop]
  first | rfl | simp
theorem step_51 {l : List UInt8} {k : Nat} (hk : k < l.length) (hc : (l[k].toNat : Int) = 51) : Fs.step (List.drop k l) =
    some (0, 1037, 1) := by
  have e := drop_at hk (n := 51) (by decide) hc
  rw [← e]
  show Fs.step ((51 : UInt8) :: List.drop (k + 1) l) = _
  simp only [Fs.step, UInt8.reduceOfNat, List.drop_succ_cons, List.drop_drop]
  first | rfl | simp
theorem step_52 {l : List UInt8} {k : Nat} (hk : k < l.length) (hc : (l[k].toNat : Int) = 52) : Fs.step (List.drop k l) =
    some (0, 1039, 1) := by
  have e := drop_at hk (n := 52) (by decide) hc
  rw [← e]
  show Fs.step ((52 : UInt8) :: List.drop (k + 1) l) = _
  simp only [Fs.step, UInt8.reduceOfNat, List.drop_succ_cons, List.drop_drop]
  first | rfl | simp
theorem step_53 {l : List UInt8} {k : Nat} (hk : k < l.length) (hc : (l[k].toNat : Int) = 53) : Fs.step (List.drop k l) =
    some (0, 1041, 1) := by
  have e := drop_at hk (n := 53) (by decide) hc
  rw [← e]
  show Fs.step ((53 : UInt8) :: List.drop (k + 1) l) = _
  simp only [Fs.step, UInt8.reduceOfNat, List.drop_succ_cons, List.drop_drop]
  first | rfl | simp
theorem step_P {l : List UInt8} {k : Nat} (hk : k < l.length) (hc : (l[k].toNat : Int) = 80) : Fs.step (List.drop k l) =
    if (List.drop (k + 1) l)[0]? = some 77 then some (0, 1045, 2) else none := by
  have e := drop_at hk (n := 80) (by decide) hc
  rw [← e]
  show Fs.step ((80 : UInt8) :: List.drop (k + 1) l) = _
  simp only [Fs.step, UInt8.reduceOfNat, List.drop_succ_cons, List.drop_drop]
  first | rfl | simp
theorem step_p {l : List UInt8} {k : Nat} (hk : k < l.length) (hc : (l[k].toNat : Int) = 112) : Fs.step (List.drop k l) =
    if (List.drop (k + 1) l)[0]? = some 109 then some (0, 1046, 2) else none := by
  have e := drop_at hk (n := 112) (by decide) hc
  rw [← e]
  show Fs.step ((112 : UInt8) :: List.drop (k + 1) l) = _
  simp only [Fs.step, UInt8.reduceOfNat, List.drop_succ_cons, List.drop_drop]
  first | rfl | simp
theorem head_at {l : List UInt8} {k : Nat} (hk : k + 1 < l.length) : (List.drop (k + 1) l)[0]? = some l[k + 1] := by
  rw [List.drop_eq_getElem_cons hk]; rfl
theorem head_none {l : List UInt8} {k : Nat} (hk : ¬ k + 1 < l.length) : (List.drop (k + 1) l)[0]? = none := by
  rw [List.drop_eq_nil_of_le (by omega)]; rfl
theorem head_is {l : List UInt8} {k n : Nat} (hn : n < 256) (hk : k + 1 < l.length) (hc : (l[k + 1].toNat : Int) = n) : (List.drop (k + 1) l)[0]? = some (UInt8.ofNat n) := by
  rw [head_at hk, byte_of_int hn hc]
theorem head_not {l : List UInt8} {k n : Nat} (hn : n < 256) (hk : k + 1 < l.length) (hc : ¬ (l[k + 1].toNat : Int) = n) : ¬ (List.drop (k + 1) l)[0]? = some (UInt8.ofNat n) := by
  rw [head_at hk]
  intro e
  injection e with e
  apply hc
  rw [e, UInt8.toNat_ofNat']
  omega
theorem head_gone {l : List UInt8} {k : Nat} {c : UInt8} (hk : ¬ k + 1 < l.length) : ¬ (List.drop (k + 1) l)[0]? = some c := by
  rw [head_none hk]; simp

theorem step_0 {l : List UInt8} {k : Nat} (hk : k < l.length) (hc : (l[k].toNat : Int) = 48) : Fs.step (List.drop k l) =
    match List.drop (k + 1) l with
    | [] => none
    | d :: t2 => if 49 ≤ d.toNat ∧ d.toNat ≤ 54 then some (0, Fs.std0x d, 2) else if d = 48 ∧ t2[0]? = some 50 then some (0, 523, 3) else none := by
  have e := drop_at hk (n := 48) (by decide) hc
  rw [← e]
  show Fs.step ((48 : UInt8) :: List.drop (k + 1) l) = _
  simp only [Fs.step, UInt8.reduceOfNat, List.drop_succ_cons, List.drop_drop]
  first | rfl | simp
theorem step_0x {l : List UInt8} {k n : Nat} {s : Int} (hk : k < l.length) (hc : (l[k].toNat : Int) = 48) (hk1 : k + 1 < l.length) (hn : 49 ≤ n ∧ n ≤ 54) (hc1 : (l[k + 1].toNat : Int) = n) (hs : Fs.std0x (UInt8.ofNat n) = s) : Fs.step (List.drop k l) = some (0, s, 2) := by
  rw [step_0 hk hc, List.drop_eq_getElem_cons hk1]
  have e := byte_of_int (by omega) hc1
  simp only [e, hs, UInt8.toNat_ofNat']
  rw [if_pos (by omega)]
theorem step_00 {l : List UInt8} {k : Nat} (hk : k < l.length) (hc : (l[k].toNat : Int) = 48) (hk2 : k + 2 < l.length) (hc1 : (l[k + 1].toNat : Int) = 48) (hc2 : (l[k + 2].toNat : Int) = 50) : Fs.step (List.drop k l) = some (0, 523, 3) := by
  have hk1 : k + 1 < l.length := by omega
  rw [step_0 hk hc, List.drop_eq_getElem_cons hk1]
  have e := byte_of_int (n := 48) (by omega) hc1
  have e2 := head_is (k := k + 1) (n := 50) (by omega) hk2 hc2
  simp only [e]
  rw [if_neg (by decide), if_pos ⟨rfl, e2⟩]
theorem step_0none {l : List UInt8} {k : Nat} (hk : k < l.length) (hc : (l[k].toNat : Int) = 48)
    (h1 : ∀ hk1 : k + 1 < l.length, ¬ (49 ≤ (l[k + 1].toNat : Int) ∧ (l[k + 1].toNat : Int) ≤ 54)) (h2 : ∀ hk2 : k + 2 < l.length, ¬ ((l[k + 1].toNat : Int) = 48 ∧ (l[k + 2].toNat : Int) = 50)) : Fs.step (List.drop k l) = none := by
  rw [step_0 hk hc]
  by_cases hk1 : k + 1 < l.length
  · have := h1 hk1
    rw [List.drop_eq_getElem_cons hk1]
    simp only []
    rw [if_neg (by omega), if_neg]
    rintro ⟨e1, e2⟩
    by_cases hk2 : k + 2 < l.length
    · rw [head_at (k := k + 1) hk2] at e2
      injection e2 with e2
      exact h2 hk2 ⟨by rw [e1]; rfl, by rw [e2]; rfl⟩
    · rw [head_none (k := k + 1) hk2] at e2
      cases e2
  · rw [List.drop_eq_nil_of_le (by omega)]

theorem step_frac {l : List UInt8} {k : Nat} {m : Nat} (hk : k < l.length) (hc : (l[k].toNat : Int) = m) (hm : m = 46 ∨ m = 44) : Fs.step (List.drop k l) =
    match List.drop (k + 1) l with
    | [] => none
    | d :: t => if d = 48 ∨ d = 57 then (if Fs.digAt (d :: t) (Fs.run d (d :: t)) then none else some (0, Fs.frac (if d = 57 then 35 else 34) (Fs.run d (d :: t)) (UInt8.ofNat m), 1 + Fs.run d (d :: t))) else none := by
  have e := drop_at hk (n := m) (by omega) hc
  rw [← e]
  rcases hm with rfl | rfl
  · show Fs.step ((46 : UInt8) :: List.drop (k + 1) l) = _
    have n74 : ¬ (46 : UInt8) = 74 := by decide
    have n77 : ¬ (46 : UInt8) = 77 := by decide
    have n48 : ¬ (46 : UInt8) = 48 := by decide
    have n49 : ¬ (46 : UInt8) = 49 := by decide
    have n50 : ¬ (46 : UInt8) = 50 := by decide
    have n95 : ¬ (46 : UInt8) = 95 := by decide
    have n51 : ¬ (46 : UInt8) = 51 := by decide
    have n52 : ¬ (46 : UInt8) = 52 := by decide
    have n53 : ¬ (46 : UInt8) = 53 := by decide
    have n80 : ¬ (46 : UInt8) = 80 := by decide
    have n112 : ¬ (46 : UInt8) = 112 := by decide
    have n45 : ¬ (46 : UInt8) = 45 := by decide
    have n90 : ¬ (46 : UInt8) = 90 := by decide
    simp only [Fs.step]
    rw [if_neg n74, if_neg n77, if_neg n48, if_neg n49, if_neg n50, if_neg n95, if_neg n51, if_neg n52, if_neg n53, if_neg n80, if_neg n112, if_neg n45, if_neg n90, if_pos (by decide)]
    cases List.drop (k + 1) l <;> rfl
  · show Fs.step ((44 : UInt8) :: List.drop (k + 1) l) = _
    have n74 : ¬ (44 : UInt8) = 74 := by decide
    have n77 : ¬ (44 : UInt8) = 77 := by decide
    have n48 : ¬ (44 : UInt8) = 48 := by decide
    have n49 : ¬ (44 : UInt8) = 49 := by decide
    have n50 : ¬ (44 : UInt8) = 50 := by decide
    have n95 : ¬ (44 : UInt8) = 95 := by decide
    have n51 : ¬ (44 : UInt8) = 51 := by decide
    have n52 : ¬ (44 : UInt8) = 52 := by decide
    have n53 : ¬ (44 : UInt8) = 53 := by decide
    have n80 : ¬ (44 : UInt8) = 80 := by decide
    have n112 : ¬ (44 : UInt8) = 112 := by decide
    have n45 : ¬ (44 : UInt8) = 45 := by decide
    have n90 : ¬ (44 : UInt8) = 90 := by decide
    simp only [Fs.step]
    rw [if_neg n74, if_neg n77, if_neg n48, if_neg n49, if_neg n50, if_neg n95, if_neg n51, if_neg n52, if_neg n53, if_neg n80, if_neg n112, if_neg n45, if_neg n90, if_pos (by decide)]
    cases List.drop (k + 1) l <;> rfl
theorem byte_ne {c : UInt8} {n : Nat} (hn : n < 256) (h : ¬ (c.toNat : Int) = (n : Int)) : ¬ c = UInt8.ofNat n := by
  intro e
  apply h
  rw [e, UInt8.toNat_ofNat']
  omega
theorem step_other {l : List UInt8} {k : Nat} (hk : k < l.length) (h74 : ¬ (l[k].toNat : Int) = 74) (h77 : ¬ (l[k].toNat : Int) = 77) (h48 : ¬ (l[k].toNat : Int) = 48) (h49 : ¬ (l[k].toNat : Int) = 49) (h50 : ¬ (l[k].toNat : Int) = 50) (h95 : ¬ (l[k].toNat : Int) = 95) (h51 : ¬ (l[k].toNat : Int) = 51) (h52 : ¬ (l[k].toNat : Int) = 52) (h53 : ¬ (l[k].toNat : Int) = 53) (h80 : ¬ (l[k].toNat : Int) = 80) (h112 : ¬ (l[k].toNat : Int) = 112) (h45 : ¬ (l[k].toNat : Int) = 45) (h90 : ¬ (l[k].toNat : Int) = 90) (h46 : ¬ (l[k].toNat : Int) = 46) (h44 : ¬ (l[k].toNat : Int) = 44) : Fs.step (List.drop k l) = none := by
  have g74 : ¬ l[k] = 74 := byte_ne (n := 74) (by decide) h74
  have g77 : ¬ l[k] = 77 := byte_ne (n := 77) (by decide) h77
  have g48 : ¬ l[k] = 48 := byte_ne (n := 48) (by decide) h48
  have g49 : ¬ l[k] = 49 := byte_ne (n := 49) (by decide) h49
  have g50 : ¬ l[k] = 50 := byte_ne (n := 50) (by decide) h50
  have g95 : ¬ l[k] = 95 := byte_ne (n := 95) (by decide) h95
  have g51 : ¬ l[k] = 51 := byte_ne (n := 51) (by decide) h51
  have g52 : ¬ l[k] = 52 := byte_ne (n := 52) (by decide) h52
  have g53 : ¬ l[k] = 53 := byte_ne (n := 53) (by decide) h53
  have g80 : ¬ l[k] = 80 := byte_ne (n := 80) (by decide) h80
  have g112 : ¬ l[k] = 112 := byte_ne (n := 112) (by decide) h112
  have g45 : ¬ l[k] = 45 := byte_ne (n := 45) (by decide) h45
  have g90 : ¬ l[k] = 90 := byte_ne (n := 90) (by decide) h90
  have g46 : ¬ l[k] = 46 := byte_ne (n := 46) (by decide) h46
  have g44 : ¬ l[k] = 44 := byte_ne (n := 44) (by decide) h44
  rw [List.drop_eq_getElem_cons hk]
  simp only [Fs.step]
  rw [if_neg g74, if_neg g77, if_neg g48, if_neg g49, if_neg g50, if_neg g95, if_neg g51, if_neg g52, if_neg g53, if_neg g80, if_neg g112, if_neg g45, if_neg g90, if_neg (fun e => e.elim (fun e => g46 e) (fun e => g44 e))]


theorem ofInt_i64 (a : Nat) (ha : a < 9223372036854775808) : (BitVec.ofInt 64 (a : Int)).toNat = a := by
  rw [BitVec.ofInt_natCast, BitVec.toNat_ofNat]; exact Nat.mod_eq_of_lt (by omega)
theorem i64_and_nat (a b : Nat) (ha : a < 9223372036854775808) (hb : b < 9223372036854775808) : bits .and .i64 (a : Int) (b : Int) = ((a &&& b : Nat) : Int) := by
  have hx : a &&& b < 2 ^ 63 := Nat.and_lt_two_pow _ (by omega)
  show IntKind.i64.wrap ((BitVec.ofInt 64 (a : Int) &&& BitVec.ofInt 64 (b : Int)).toNat : Int) = _
  rw [BitVec.toNat_and, ofInt_i64 a ha, ofInt_i64 b hb, IntKind.wrap_i64]
  omega
theorem i64_or_nat (a b : Nat) (ha : a < 9223372036854775808) (hb : b < 9223372036854775808) : bits .or .i64 (a : Int) (b : Int) = ((a ||| b : Nat) : Int) := by
  have hx : a ||| b < 2 ^ 63 := Nat.or_lt_two_pow (by omega) (by omega)
  show IntKind.i64.wrap ((BitVec.ofInt 64 (a : Int) ||| BitVec.ofInt 64 (b : Int)).toNat : Int) = _
  rw [BitVec.toNat_or, ofInt_i64 a ha, ofInt_i64 b hb, IntKind.wrap_i64]
  omega
theorem frac_or1 (m c : Nat) (hm : m < 4096) (hc : c < 65536) : bits .or .i64 (c : Int) ((m : Int) * 65536) = (c : Int) + (m : Int) * 65536 := by
  have e : (m : Int) * 65536 = ((m * 65536 : Nat) : Int) := by omega
  rw [e, i64_or_nat _ _ (by omega) (by omega), Nat.or_comm, nat_join 16 (m * 65536) c (by omega) (by omega)]
  omega
theorem frac_or2 (m c : Nat) (hm : m < 4096) (hc : c < 65536) : bits .or .i64 ((c : Int) + (m : Int) * 65536) 268435456 = (c : Int) + (m : Int) * 65536 + 268435456 := by
  have e : (c : Int) + (m : Int) * 65536 = ((m * 65536 + c : Nat) : Int) := by omega
  have e2 : (268435456 : Int) = ((268435456 : Nat) : Int) := rfl
  rw [e, e2, i64_or_nat _ _ (by omega) (by omega), Nat.or_comm, nat_join 28 268435456 (m * 65536 + c) (by omega) (by omega)]
  omega
theorem mask12 (n : Nat) (hn : n ≤ 140737488351000) : bits .and .i64 (n : Int) 4095 = ((n % 4096 : Nat) : Int) := by
  have e2 : (4095 : Int) = ((4095 : Nat) : Int) := rfl
  rw [e2, i64_and_nat _ _ (by omega) (by omega)]
  have := Nat.and_two_pow_sub_one_eq_mod n 12
  simp only [show (2 ^ 12 - 1 : Nat) = 4095 from rfl, show (2 ^ 12 : Nat) = 4096 from rfl] at this
  rw [this]

set_option maxHeartbeats 400000 in
theorem frac_any (code : Nat) (hcode : code = 34 ∨ code = 35) (n : Nat) (hn : n ≤ 140737488351000) (c : UInt8) (w : World) :
    Calls Tryd.prog 75 #[.int .i64 code, .int .i64 n, .int .i64 c.toNat] w fun e w' => e = .returned (.int .i64 (Fs.frac code n c)) ∧ Qt w w' := by
  obtain ⟨m, hm⟩ : ∃ m, m = n % 4096 := ⟨_, rfl⟩
  have hmlt : m < 4096 := by omega
  have r1 : bits .and .i64 (n : Int) 4095 = (m : Int) := by rw [mask12 n hn, hm]
  have r2 := frac_or1 m code hmlt (by omega)
  have r3 := frac_or2 m code hmlt (by omega)
  have HM := hide hm
  clear hm
  by_cases hc : c.toNat = 46
  · have b1 : ((c.toNat : Int) == 46) = true := by rw [beq_iff_eq]; omega
    have HF : Hid (Fs.frac code n c = (code : Int) + (m : Int) * 65536) := by
      have : c = 46 := UInt8.toNat_inj.1 hc
      show _ = _
      rw [HM.out]; simp [Fs.frac, this]
    clear hc hcode
    go_enter Tryd.func75, Tryd.ntmps75
    go_wp2_with fail
    go_ret
    exact ⟨ret_int (by rw [HF.out]), Qt.refl _⟩
  · have b1 : ((c.toNat : Int) == 46) = false := by rw [beq_eq_false_iff_ne]; omega
    have HF : Hid (Fs.frac code n c = (code : Int) + (m : Int) * 65536 + 268435456) := by
      have : ¬ c = 46 := fun e => hc (by rw [e]; rfl)
      show _ = _
      rw [HM.out]; simp [Fs.frac, this]
    clear hc hcode
    go_enter Tryd.func75, Tryd.ntmps75
    go_wp2_with fail
    go_ret
    exact ⟨ret_int (by rw [HF.out]), Qt.refl _⟩

end Go.Proofs.YtgcjhakhepgjlaaDoor
