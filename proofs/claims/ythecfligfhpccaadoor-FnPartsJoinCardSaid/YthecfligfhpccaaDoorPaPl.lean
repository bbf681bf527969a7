/- The parts of a text, plain. -/
import Derived.Test.YthecfligfhpccaaDoorEPaL
set_option linter.unusedVariables false
namespace Go.Proofs.YthecfligfhpccaaDoor.Pa
open Go.RowKit Go.Lib
/-- The sign at a place, and its size. -/
def sg (s : ByteArray) (p : Nat) : Nat × Nat := Lib.decodeGo (s.extract p s.size)
theorem get_ext (s : ByteArray) (p j : Nat) : (s.extract p s.size).get! j = s.get! (p + j) := by
  show (s.extract p s.size).data[j]! = s.data[p + j]!
  rw [ByteArray.data_extract]
  have hs : s.size = s.data.size := rfl
  by_cases h : p + j < s.data.size
  · have h3 : j < (s.data.extract p s.size).size := by rw [Array.size_extract]; omega
    rw [getElem!_pos _ j h3, getElem!_pos _ (p + j) h, Array.getElem_extract]
  · have h3 : ¬ j < (s.data.extract p s.size).size := by rw [Array.size_extract]; omega
    rw [getElem!_neg _ j h3, getElem!_neg _ (p + j) h]
theorem sg_dec (s : ByteArray) (p : Nat) (h : p < s.size) : sg s p = Utf8.decode s p := by
  have hz : (s.extract p s.size).size = s.size - p := by rw [ByteArray.size_extract]; omega
  unfold sg decodeGo
  rw [if_neg (by omega), decode_at, decode_at, hz, get_ext, get_ext, get_ext, get_ext]
  simp
theorem sg_pos (s : ByteArray) (p : Nat) (h : p < s.size) : 1 ≤ (sg s p).2 := by
  rw [sg_dec s p h, decode_at]
  unfold decodeN
  repeat' split
  all_goals simp
theorem sg_le (s : ByteArray) (p : Nat) (h : p < s.size) : p + (sg s p).2 ≤ s.size := by
  rw [sg_dec s p h, decode_at]
  unfold decodeN
  repeat' split
  all_goals (simp only; omega)
theorem sg_rune (s : ByteArray) (p : Nat) (h : p < s.size) : (sg s p).1 ≤ 1114111 := by
  rw [sg_dec s p h, decode_at]
  have := UInt8.toNat_lt (s.get! p)
  unfold decodeN
  repeat' split
  all_goals (simp only; omega)
structure Opt where
  each : Bool
  alpha : Bool
  num : Bool
/-- Whether a sign is put together with others. -/
def stk (o : Opt) (x : Nat × Nat) : Bool := decide (x.2 ≤ 2) && ((isLetterU x.1 && !o.alpha) || (isNumberU x.1 && !o.num))
/-- The parts from cur on; a run began at st if run is on. -/
def go (s : ByteArray) (o : Opt) : Nat → Nat → Nat → Bool → List ByteArray
  | 0, _, _, _ => []
  | k + 1, cur, st, run =>
    if cur < s.size then
      (if stk o (sg s cur) then
        (if o.each then low (s.extract cur (cur + (sg s cur).2)) :: go s o k (cur + (sg s cur).2) (if run then st else cur) true
         else go s o k (cur + (sg s cur).2) (if run then st else cur) true)
       else (if run && (decide (cur ≠ 0) && !o.each) then low (s.extract st cur) :: s.extract cur (cur + (sg s cur).2) :: go s o k (cur + (sg s cur).2) st false
         else s.extract cur (cur + (sg s cur).2) :: go s o k (cur + (sg s cur).2) st false))
    else (if run && !o.each then (if cur ≠ 0 then [low (s.extract st cur)] else []) else [])
def parts (s : ByteArray) (o : Opt) : List ByteArray := go s o (s.size + 1) 0 0 true
theorem ext_le (s : ByteArray) (i j : Nat) : (s.extract i j).size ≤ s.size := by rw [ByteArray.size_extract]; omega
theorem go_small (s : ByteArray) (o : Opt) : ∀ (k cur st : Nat) (run : Bool), (go s o k cur st run).length ≤ 2 * k ∧ ∀ p ∈ go s o k cur st run, p.size ≤ s.size := by
  intro k
  induction k with
  | zero => intro cur st run; exact ⟨Nat.le_refl _, fun p hp => by simp [go] at hp⟩
  | succ k ih =>
    intro cur st run
    have i1 := fun a b c => (ih a b c).1
    have i2 := fun a b c => (ih a b c).2
    unfold go
    constructor
    · repeat' split
      all_goals try simp only [List.length_cons, List.length_nil]
      all_goals first | omega | (have := i1 (cur + (sg s cur).2) (if run = true then st else cur) true; omega) | (have := i1 (cur + (sg s cur).2) st false; omega) | (have := i1 (cur + (sg s cur).2) st true; omega) | (have := i1 (cur + (sg s cur).2) cur true; omega)
    · intro p hp
      repeat' split at hp
      all_goals try simp only [List.mem_cons, List.not_mem_nil, or_false] at hp
      all_goals first | (rcases hp with rfl | rfl | hp; (rw [low_size]; exact ext_le _ _ _); exact ext_le _ _ _; exact i2 _ _ _ p hp) | (rcases hp with rfl | hp; (rw [low_size]; exact ext_le _ _ _); exact i2 _ _ _ p hp) | (rcases hp with rfl | hp; exact ext_le _ _ _; exact i2 _ _ _ p hp) | exact i2 _ _ _ p hp | (subst hp; rw [low_size]; exact ext_le _ _ _)
end Go.Proofs.YthecfligfhpccaaDoor.Pa
