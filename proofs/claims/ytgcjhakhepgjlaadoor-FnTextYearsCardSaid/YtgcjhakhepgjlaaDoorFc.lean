/-
  THE PLAIN MODEL, part 2: the elements of layouts: what nextStdChunk finds. Nothing of the program is imported.
-/
import Derived.Test.YtgcjhakhepgjlaaDoorFs
namespace Go.Proofs.YtgcjhakhepgjlaaDoor.Fs

/-- a lower-case letter at the head -/
def low (l : Bs) : Bool := match l with
  | [] => false
  | c :: _ => decide (97 ≤ c.toNat) && decide (c.toNat ≤ 122)
/-- how often the sign c stands at the head -/
def run (c : UInt8) : Bs → Nat
  | [] => 0
  | d :: t => if d = c then run c t + 1 else 0
def std0x (c : UInt8) : Int := if c = 49 then 260 else if c = 50 then 265 else if c = 51 then 1038 else if c = 52 then 1040 else if c = 53 then 1042 else 276
/-- the number of a fraction: code, digits, and its mark -/
def frac (code : Int) (n : Nat) (c : UInt8) : Int := code + (n % 4096 : Nat) * 65536 + if c = 46 then 0 else 268435456

/-- WHAT STANDS AT THE HEAD OF A LAYOUT: how much of it is text still, the element's number, how long both are. -/
def step (l : Bs) : Option (Nat × Int × Nat) := match l with
  | [] => none
  | c :: t =>
    if c = 74 then
      if l.take 3 = [74, 97, 110] then (if l.take 7 = [74, 97, 110, 117, 97, 114, 121] then some (0, 257, 7) else if low (l.drop 3) then none else some (0, 258, 3)) else none
    else if c = 77 then
      if l.take 3 = [77, 111, 110] then (if l.take 6 = [77, 111, 110, 100, 97, 121] then some (0, 261, 6) else if low (l.drop 3) then none else some (0, 262, 3))
      else if l.take 3 = [77, 83, 84] then some (0, 23, 3) else none
    else if c = 48 then
      match t with
      | [] => none
      | d :: t2 => if 49 ≤ d.toNat ∧ d.toNat ≤ 54 then some (0, std0x d, 2) else if d = 48 ∧ t2[0]? = some 50 then some (0, 523, 3) else none
    else if c = 49 then (if t[0]? = some 53 then some (0, 1036, 2) else some (0, 259, 1))
    else if c = 50 then (if l.take 4 = [50, 48, 48, 54] then some (0, 275, 4) else some (0, 263, 1))
    else if c = 95 then
      if t[0]? = some 50 then (if t.take 4 = [50, 48, 48, 54] then some (1, 275, 5) else some (0, 264, 2))
      else if t.take 2 = [95, 50] then some (0, 522, 3) else none
    else if c = 51 then some (0, 1037, 1)
    else if c = 52 then some (0, 1039, 1)
    else if c = 53 then some (0, 1041, 1)
    else if c = 80 then (if t[0]? = some 77 then some (0, 1045, 2) else none)
    else if c = 112 then (if t[0]? = some 109 then some (0, 1046, 2) else none)
    else if c = 45 then
      if l.take 7 = [45, 48, 55, 48, 48, 48, 48] then some (0, 30, 7)
      else if l.take 9 = [45, 48, 55, 58, 48, 48, 58, 48, 48] then some (0, 33, 9)
      else if l.take 5 = [45, 48, 55, 48, 48] then some (0, 29, 5)
      else if l.take 6 = [45, 48, 55, 58, 48, 48] then some (0, 32, 6)
      else if l.take 3 = [45, 48, 55] then some (0, 31, 3) else none
    else if c = 90 then
      if l.take 7 = [90, 48, 55, 48, 48, 48, 48] then some (0, 25, 7)
      else if l.take 9 = [90, 48, 55, 58, 48, 48, 58, 48, 48] then some (0, 28, 9)
      else if l.take 5 = [90, 48, 55, 48, 48] then some (0, 24, 5)
      else if l.take 6 = [90, 48, 55, 58, 48, 48] then some (0, 27, 6)
      else if l.take 3 = [90, 48, 55] then some (0, 26, 3) else none
    else if c = 46 ∨ c = 44 then
      match t with
      | [] => none
      | d :: _ => if d = 48 ∨ d = 57 then (if digAt t (run d t) then none else some (0, frac (if d = 57 then 35 else 34) (run d t) c, 1 + run d t)) else none
    else none

def pre (p : Bs) (x : Bs × Int × Bs) : Bs × Int × Bs := (p ++ x.1, x.2)
/-- nextStdChunk: the text ahead of the first element, its number (0: none), the text behind it -/
def next : Bs → Bs × Int × Bs
  | [] => ([], 0, [])
  | c :: t => match step (c :: t) with
    | some (e, s, n) => ((c :: t).take e, s, (c :: t).drop n)
    | none => pre [c] (next t)

theorem next_found {l : Bs} {e n : Nat} {s : Int} (h : step l = some (e, s, n)) : next l = (l.take e, s, l.drop n) := by
  rcases l with _ | ⟨c, t⟩
  · simp [step] at h
  · simp [next, h]
theorem next_skip {c : UInt8} {t : Bs} (h : step (c :: t) = none) : next (c :: t) = pre [c] (next t) := by simp [next, h]
theorem pre_pre (p q : Bs) (x : Bs × Int × Bs) : pre p (pre q x) = pre (p ++ q) x := by simp [pre]
theorem pre_nil (x : Bs × Int × Bs) : pre [] x = x := by simp [pre]
/-- one sign more is text -/
theorem next_on {l : Bs} {k : Nat} (hk : k < l.length) (h : step (l.drop k) = none) (hN : next l = pre (l.take k) (next (l.drop k))) : next l = pre (l.take (k + 1)) (next (l.drop (k + 1))) := by
  rw [List.drop_eq_getElem_cons hk] at h hN
  rw [hN, next_skip h, pre_pre, List.take_succ_eq_append_getElem hk]
/-- an element is found -/
theorem next_at {l : Bs} {k e n : Nat} {s : Int} (h : step (l.drop k) = some (e, s, n)) (hN : next l = pre (l.take k) (next (l.drop k))) : next l = (l.take (k + e), s, l.drop (k + n)) := by
  rw [hN, next_found h]
  simp [pre, List.take_add]
theorem next_end {l : Bs} (hN : next l = pre (l.take l.length) (next (l.drop l.length))) : next l = (l, 0, []) := by
  rw [hN]; simp [next, pre]
theorem run_le (c : UInt8) : ∀ l : Bs, run c l ≤ l.length
  | [] => by simp [run]
  | d :: t => by
    have := run_le c t
    unfold run
    split <;> simp <;> omega

end Go.Proofs.YtgcjhakhepgjlaaDoor.Fs
