/- Sentences: what one call of ScanSentences does, on bytes; plain. -/
import Derived.Test.YtpjnebmcbeblkaaDoorLaidS
set_option linter.unusedVariables false
namespace Go.Proofs.YtpjnebmcbeblkaaDoor.Sn
open Go.RowKit Go.Lib
/-- The byte at j. -/
def byt (s : ByteArray) (j : Nat) : Int := ((s.get! j).toNat : Int)
theorem byt_range (s : ByteArray) (j : Nat) : 0 ≤ byt s j ∧ byt s j ≤ 255 := by
  unfold byt
  have := UInt8.toNat_lt (s.get! j)
  omega
theorem byt_eq (s : ByteArray) (j : Nat) (h : j < s.size) : byt s j = ((s.data[j]'h).toNat : Int) := by
  unfold byt
  show ((s.data[j]!).toNat : Int) = _
  rw [getElem!_pos s.data j h]
structure Sp where
  ends : List Int
  fol : List Int
  skip : Bool
  lines : Bool
  max : Int
def isD (o : Sp) (r : Int) : Bool := o.ends.any (· == r)
def isF (o : Sp) (r : Int) : Bool := o.fol.any (· == r)
/-- The sign at a place, and its size. -/
def sg (s : ByteArray) (p : Nat) : Nat × Nat := Lib.decodeGo (s.extract p s.size)
theorem get_ext (s : ByteArray) (p j : Nat) : (s.extract p s.size).get! j = s.get! (p + j) := by
  show (s.extract p s.size).data[j]! = s.data[p + j]!
  rw [ByteArray.data_extract]
  have hs : s.size = s.data.size := rfl
  by_cases h : p + j < s.data.size
  · have h3 : j < (s.data.extract p s.size).size := by rw [Array.size_extract]; omega
    rw [getElem!_pos _ j h3, getElem!_pos _ (p + j) h, Array.getElem_extract]
  · have h3 : ¬ j < (s.data.extract p s.size).size := by rw [Array.size_extract]; omega
    rw [getElem!_neg _ j h3, getElem!_neg _ (p + j) h]
theorem sg_dec (s : ByteArray) (p : Nat) (h : p < s.size) : sg s p = Utf8.decode s p := by
  have hz : (s.extract p s.size).size = s.size - p := by rw [ByteArray.size_extract]; omega
  unfold sg decodeGo
  rw [if_neg (by omega), decode_at, decode_at, hz, get_ext, get_ext, get_ext, get_ext]
  simp
theorem sg_pos (s : ByteArray) (p : Nat) (h : p < s.size) : 1 ≤ (sg s p).2 := by
  rw [sg_dec s p h, decode_at]
  unfold decodeN
  repeat' split
  all_goals simp
theorem sg_le (s : ByteArray) (p : Nat) (h : p < s.size) : p + (sg s p).2 ≤ s.size := by
  rw [sg_dec s p h, decode_at]
  unfold decodeN
  repeat' split
  all_goals (simp only; omega)
theorem sg_rune (s : ByteArray) (p : Nat) (h : p < s.size) : (sg s p).1 ≤ 1114111 := by
  rw [sg_dec s p h, decode_at]
  have := UInt8.toNat_lt (s.get! p)
  unfold decodeN
  repeat' split
  all_goals (simp only; omega)
/-- Byte v is written at j. -/
def setB (s : ByteArray) (j : Nat) (v : UInt8) : ByteArray := ⟨s.data.setIfInBounds j v⟩
theorem setB_size (s : ByteArray) (j : Nat) (v : UInt8) : (setB s j v).size = s.size := by
  unfold setB ByteArray.size
  simp
theorem byt_setB (s : ByteArray) (i j : Nat) (v : UInt8) (hj : j < s.size) : byt (setB s i v) j = if i = j then (v.toNat : Int) else byt s j := by
  have h2 : j < (setB s i v).size := by rw [setB_size]; exact hj
  rw [byt_eq _ _ h2, byt_eq _ _ hj]
  have h3 : j < (s.data.setIfInBounds i v).size := by simpa using hj
  show (((s.data.setIfInBounds i v)[j]'h3).toNat : Int) = _
  rw [Array.getElem_setIfInBounds]
  split <;> rfl
def space (o : Sp) (r : Int) : Bool := o.skip && Lib.isSpaceZ r
/-- n bytes from p on are laid at e (e is not behind p). -/
def move (s : ByteArray) (e p : Nat) : Nat → ByteArray
  | 0 => s
  | n + 1 => setB (move s e p n) (e + n) ((move s e p n).get! (p + n))
theorem move_size (s : ByteArray) (e p : Nat) : ∀ n, (move s e p n).size = s.size
  | 0 => rfl
  | n + 1 => by rw [move, setB_size, move_size s e p n]
def blank (s : ByteArray) (e : Nat) : Nat → ByteArray
  | 0 => s
  | n + 1 => setB (blank s e n) (e + n) 32
theorem blank_size (s : ByteArray) (e : Nat) : ∀ n, (blank s e n).size = s.size
  | 0 => rfl
  | n + 1 => by rw [blank, setB_size, blank_size s e n]
/-- The bytes behind a sign that was kept: it is laid at e. -/
def put (s : ByteArray) (e p n : Nat) : ByteArray := if e = p then s else move s e p n
theorem put_size (s : ByteArray) (e p n : Nat) : (put s e p n).size = s.size := by
  unfold put
  split
  · rfl
  · exact move_size s e p n
/-- What a call tells: how far it went, the token's ends if there is one, the bytes as they are then. -/
structure Out where
  adv : Nat
  tok : Option (Nat × Nat)
  data : ByteArray
/-- Behind a sign that ends a sentence: signs that may follow, white space. -/
def tail (o : Sp) (start : Nat) : Nat → ByteArray → Nat → Nat → Bool → Out
  | 0, s, p, e, _ => ⟨p, some (start, e), s⟩
  | k + 1, s, p, e, nn =>
    if p < s.size then
      if space o (sg s p).1 then
        if o.lines && ((sg s p).1 : Int) == 10 then (if nn then ⟨p + (sg s p).2, some (start, e), s⟩ else tail o start k s (p + (sg s p).2) e true)
        else tail o start k s (p + (sg s p).2) e nn
      else if isD o (sg s p).1 || isF o (sg s p).1 then tail o start k (put s e p (sg s p).2) (p + (sg s p).2) (e + (sg s p).2) nn
      else ⟨p, some (start, e), s⟩
    else ⟨p, some (start, e), s⟩
def scan (o : Sp) (eof : Bool) : Nat → ByteArray → Nat → Nat → Nat → Int → Bool → Bool → Out
  | 0, s, p, start, e, rc, head, nn => ⟨0, none, s⟩
  | k + 1, s, p, start, e, rc, head, nn =>
    if p < s.size then
      if space o (sg s p).1 then
        if head then scan o eof k s (p + (sg s p).2) (p + (sg s p).2) (p + (sg s p).2) rc head nn
        else if isD o (sg s p).1 then ⟨p + (sg s p).2, some (start, e), s⟩
        else if o.lines && ((sg s p).1 : Int) == 10 then (if nn then ⟨p + (sg s p).2, some (start, e), s⟩ else scan o eof k s (p + (sg s p).2) start e rc head true)
        else scan o eof k s (p + (sg s p).2) start e rc head false
      else if (o.lines && ((sg s p).1 : Int) == 10) && nn then ⟨p + (sg s p).2, some (start, e + (sg s p).2), put s e p (sg s p).2⟩
      else if !(isD o (sg s p).1) && decide (rc + 1 < o.max) then scan o eof k (put s e p (sg s p).2) (p + (sg s p).2) start (e + (sg s p).2) (rc + 1) false ((o.lines && ((sg s p).1 : Int) == 10) || nn)
      else tail o start (s.size + 1) (put s e p (sg s p).2) (p + (sg s p).2) (e + (sg s p).2) false
    else if eof then ⟨s.size, some (start, e), s⟩ else ⟨start, none, blank s e (s.size - e)⟩
/-- The whole call. -/
def call (o : Sp) (s : ByteArray) (eof : Bool) : Out := if eof && s.size == 0 then ⟨0, none, s⟩ else scan o eof (s.size + 1) s 0 0 0 0 true false
end Go.Proofs.YtpjnebmcbeblkaaDoor.Sn
