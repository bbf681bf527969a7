/- Plain facts: whether texts are UTF-8, without a byte 0 and short is told after some rounds. A text's signs, plain: what 'signs' tells, of what the decoder tells. A short text without a sign that ends one, plain. Tokens of a text of which nothing is left out, as lists of signs; plain. What the laws' small functions tell of sentences; plain. Sentences as lists of signs: how they end, how long they are; plain. What the laws on sentences look at: calm texts; plain. -/
import Derived.Test.YtpjnebmcbeblkaaDoorXEv
import Derived.Test.YtpjnebmcbeblkaaDoorP16
import Derived.Test.YtpjnebmcbeblkaaDoorQSc
import Derived.Test.YtpjnebmcbeblkaaDoorP11
import Derived.Lib.MapLaws
import Derived.Test.YtpjnebmcbeblkaaDoorP21
import Derived.Test.YtpjnebmcbeblkaaDoorP12
import Derived.Test.YtpjnebmcbeblkaaDoorP18
import Derived.Test.YtpjnebmcbeblkaaDoorP15
import Derived.Test.YtpjnebmcbeblkaaDoorP19
import Derived.Test.YtpjnebmcbeblkaaDoorQSd
import Derived.Test.YtpjnebmcbeblkaaDoorP10
set_option linter.unusedVariables false
namespace Go.Proofs.YtpjnebmcbeblkaaDoor.X
open Go.RowKit Go.Proofs.YtpjnebmcbeblkaaDoorW.PrintWords Go.Proofs.YtpjnebmcbeblkaaDoorW.PrintLast Go.Proofs.YtpjnebmcbeblkaaDoorW.PrintMore Go.Proofs.YtpjnebmcbeblkaaDoor.P

def Fit4 (xs : List ByteArray) : Prop := xs.length ≤ 2147483647 ∧ ∀ s ∈ xs, s.size ≤ 2147483647
/-- What the size of a first character may be. -/
def SizeOk (s : ByteArray) (n : Int) : Prop := 0 ≤ n ∧ n ≤ s.size
theorem size_l0 (s : ByteArray) (n : Int) (hs : n ≤ s.size) (h4 : n ≤ 4) (h0 : 0 ≤ n) (d : Nat) : ∀ i : Int, 2 ≤ i → n - i ≤ d → ∃ r, Ev (fun k => laws_size.l0 k s n i) r ∧ SizeOk s r := by
  induction d with
  | zero => intro i h1 h2; exact ⟨n, ev1 0 fun k _ => by simp only [laws_size.l0]; rw [if_neg (by omega)], h0, hs⟩
  | succ d ih =>
    intro i h1 h2
    by_cases hi : i < n
    · obtain ⟨r, ⟨K, hK⟩, hr⟩ := ih (i + 1) (by omega) (by omega)
      dsimp only at hK
      by_cases c1 : bt s i < 128
      · exact ⟨0, ev1 0 fun k _ => by simp only [laws_size.l0]; rw [if_pos hi, if_pos (by omega), if_pos (by omega), if_pos c1], by unfold SizeOk; omega⟩
      · by_cases c2 : bt s i > 191
        · exact ⟨0, ev1 0 fun k _ => by simp only [laws_size.l0]; rw [if_pos hi, if_pos (by omega), if_pos (by omega), if_neg c1, if_pos c2], by unfold SizeOk; omega⟩
        · exact ⟨r, ev1 K fun k hk => by simp only [laws_size.l0]; rw [if_pos hi, if_pos (by omega), if_pos (by omega), if_neg c1, if_neg c2, wr1 (by omega) (by omega)]; exact hK k hk, hr⟩
    · exact ⟨n, ev1 0 fun k _ => by simp only [laws_size.l0]; rw [if_neg hi], h0, hs⟩
theorem size_j4 (s : ByteArray) (n : Int) (b : Bool) (hs : b = false → n ≤ s.size) (h4 : n ≤ 4) (h0 : 0 ≤ n) : ∃ r, Ev (fun k => laws_size.j4 k s n b) r ∧ SizeOk s r := by
  cases b with
  | true => exact ⟨0, ev1 0 fun k _ => by simp only [laws_size.j4]; rw [if_pos trivial], by unfold SizeOk; omega⟩
  | false =>
    obtain ⟨r, ⟨K, hK⟩, hr⟩ := size_l0 s n (hs rfl) h4 h0 n.toNat 2 (by omega) (by omega)
    exact ⟨r, ev1 K fun k hk => by simp only [laws_size.j4]; rw [if_neg (by simp)]; exact hK k hk, hr⟩
theorem size_j3 (s : ByteArray) (n lo hi : Int) (h4 : n ≤ 4) (h2 : n = 0 ∨ 2 ≤ n) : ∃ r, Ev (fun k => laws_size.j3 k s n lo hi) r ∧ SizeOk s r := by
  have hT := fun b hb => size_j4 s n b hb h4 (by omega)
  by_cases c0 : n = 0
  · obtain ⟨r, ⟨K, hK⟩, hr⟩ := hT true (by simp)
    exact ⟨r, ev1 K fun k hk => by simp only [laws_size.j3]; rw [if_pos c0]; exact hK k hk, hr⟩
  · by_cases c1 : (s.size : Int) < n
    · obtain ⟨r, ⟨K, hK⟩, hr⟩ := hT true (by simp)
      exact ⟨r, ev1 K fun k hk => by simp only [laws_size.j3]; rw [if_neg c0, if_pos c1]; exact hK k hk, hr⟩
    · by_cases c2 : bt s 1 < lo
      · obtain ⟨r, ⟨K, hK⟩, hr⟩ := hT true (by simp)
        exact ⟨r, ev1 K fun k hk => by simp only [laws_size.j3]; rw [if_neg c0, if_neg c1, if_pos (by omega), if_pos c2]; exact hK k hk, hr⟩
      · obtain ⟨r, ⟨K, hK⟩, hr⟩ := hT (decide (bt s 1 > hi)) (fun _ => by omega)
        exact ⟨r, ev1 K fun k hk => by simp only [laws_size.j3]; rw [if_neg c0, if_neg c1, if_pos (by omega), if_neg c2]; exact hK k hk, hr⟩
theorem size_j2 (s : ByteArray) (c n lo hi : Int) (h4 : n ≤ 4) (h2 : n = 0 ∨ 2 ≤ n) : ∃ r, Ev (fun k => laws_size.j2 k s c n lo hi) r ∧ SizeOk s r := by
  have hT := fun lo hi => size_j3 s n lo hi h4 h2
  by_cases c1 : c = 224
  · obtain ⟨r, ⟨K, hK⟩, hr⟩ := hT 160 hi
    exact ⟨r, ev1 K fun k hk => by simp only [laws_size.j2]; rw [if_pos c1]; exact hK k hk, hr⟩
  · by_cases c2 : c = 237
    · obtain ⟨r, ⟨K, hK⟩, hr⟩ := hT lo 159
      exact ⟨r, ev1 K fun k hk => by simp only [laws_size.j2]; rw [if_neg c1, if_pos c2]; exact hK k hk, hr⟩
    · by_cases c3 : c = 240
      · obtain ⟨r, ⟨K, hK⟩, hr⟩ := hT 144 hi
        exact ⟨r, ev1 K fun k hk => by simp only [laws_size.j2]; rw [if_neg c1, if_neg c2, if_pos c3]; exact hK k hk, hr⟩
      · by_cases c4 : c = 244
        · obtain ⟨r, ⟨K, hK⟩, hr⟩ := hT lo 143
          exact ⟨r, ev1 K fun k hk => by simp only [laws_size.j2]; rw [if_neg c1, if_neg c2, if_neg c3, if_pos c4]; exact hK k hk, hr⟩
        · obtain ⟨r, ⟨K, hK⟩, hr⟩ := hT lo hi
          exact ⟨r, ev1 K fun k hk => by simp only [laws_size.j2]; rw [if_neg c1, if_neg c2, if_neg c3, if_neg c4]; exact hK k hk, hr⟩
theorem size_j1 (s : ByteArray) (c n lo hi : Int) (b : Bool) (hn : n = 0) : ∃ r, Ev (fun k => laws_size.j1 k s c n lo hi b) r ∧ SizeOk s r := by
  cases b with
  | true =>
    obtain ⟨r, ⟨K, hK⟩, hr⟩ := size_j2 s c 3 lo hi (by omega) (by omega)
    exact ⟨r, ev1 K fun k hk => by simp only [laws_size.j1]; rw [if_pos trivial]; exact hK k hk, hr⟩
  | false =>
    by_cases c1 : c ≥ 240
    · by_cases c2 : c ≤ 244
      · obtain ⟨r, ⟨K, hK⟩, hr⟩ := size_j2 s c 4 lo hi (by omega) (by omega)
        exact ⟨r, ev1 K fun k hk => by simp only [laws_size.j1]; rw [if_neg (by simp), if_pos c1, if_pos c2]; exact hK k hk, hr⟩
      · obtain ⟨r, ⟨K, hK⟩, hr⟩ := size_j2 s c n lo hi (by omega) (by omega)
        exact ⟨r, ev1 K fun k hk => by simp only [laws_size.j1]; rw [if_neg (by simp), if_pos c1, if_neg c2]; exact hK k hk, hr⟩
    · obtain ⟨r, ⟨K, hK⟩, hr⟩ := size_j2 s c n lo hi (by omega) (by omega)
      exact ⟨r, ev1 K fun k hk => by simp only [laws_size.j1]; rw [if_neg (by simp), if_neg c1]; exact hK k hk, hr⟩
theorem size_j0 (s : ByteArray) (c lo hi : Int) (b : Bool) : ∃ r, Ev (fun k => laws_size.j0 k s c 0 lo hi b) r ∧ SizeOk s r := by
  cases b with
  | true =>
    obtain ⟨r, ⟨K, hK⟩, hr⟩ := size_j2 s c 2 lo hi (by omega) (by omega)
    exact ⟨r, ev1 K fun k hk => by simp only [laws_size.j0]; rw [if_pos trivial]; exact hK k hk, hr⟩
  | false =>
    by_cases c1 : c ≥ 224
    · obtain ⟨r, ⟨K, hK⟩, hr⟩ := size_j1 s c 0 lo hi (decide (c ≤ 239)) rfl
      exact ⟨r, ev1 K fun k hk => by simp only [laws_size.j0]; rw [if_neg (by simp), if_pos c1]; exact hK k hk, hr⟩
    · obtain ⟨r, ⟨K, hK⟩, hr⟩ := size_j1 s c 0 lo hi false rfl
      exact ⟨r, ev1 K fun k hk => by simp only [laws_size.j0]; rw [if_neg (by simp), if_neg c1]; exact hK k hk, hr⟩
theorem size_ev (s : ByteArray) (h : 0 < s.size) : ∃ n, Ev (fun k => laws_size.f k s) n ∧ SizeOk s n := by
  by_cases c1 : bt s 0 < 128
  · exact ⟨1, ⟨0, fun k _ => by simp only [laws_size.f]; rw [if_pos (by omega), if_pos c1]⟩, by unfold SizeOk; omega⟩
  · by_cases c2 : bt s 0 ≥ 194
    · obtain ⟨r, ⟨K, hK⟩, hr⟩ := size_j0 s (bt s 0) 128 191 (decide (bt s 0 ≤ 223))
      exact ⟨r, ⟨K, fun k hk => by simp only [laws_size.f]; rw [if_pos (by omega), if_neg c1, if_pos c2]; exact hK k hk⟩, hr⟩
    · obtain ⟨r, ⟨K, hK⟩, hr⟩ := size_j0 s (bt s 0) 128 191 false
      exact ⟨r, ⟨K, fun k hk => by simp only [laws_size.f]; rw [if_pos (by omega), if_neg c1, if_neg c2]; exact hK k hk⟩, hr⟩

theorem size_pos {s : ByteArray} (h : ¬ s.toList = ([] : List UInt8)) : 0 < s.size := by
  rcases Nat.eq_zero_or_pos s.size with h0 | h0
  · exfalso
    apply h
    rw [ByteArray.toList_eq]
    have : s.data.size = 0 := h0
    exact List.length_eq_zero_iff.1 (by rw [Array.length_toList]; exact this)
  · exact h0
theorem signs_l0 (d : Nat) : ∀ (s : ByteArray) (acc : List ByteArray), s.size ≤ d → acc.length + d ≤ 2147483648 → ∃ r, Ev (fun k => laws_signs.l0 k s acc) r := by
  induction d with
  | zero =>
    intro s acc h1 h2
    have h0 : s.toList = ([] : List UInt8) := by
      rw [ByteArray.toList_eq]
      have : s.data.size = 0 := by have : s.size = s.data.size := rfl; omega
      exact List.length_eq_zero_iff.1 (by rw [Array.length_toList]; exact this)
    exact ⟨(acc, true), ev1 0 fun k _ => by simp only [laws_signs.l0]; rw [if_pos h0]⟩
  | succ d ih =>
    intro s acc h1 h2
    by_cases h0 : s.toList = ([] : List UInt8)
    · exact ⟨(acc, true), ev1 0 fun k _ => by simp only [laws_signs.l0]; rw [if_pos h0]⟩
    · obtain ⟨n, ⟨K, hK⟩, hn0, hn1⟩ := size_ev s (size_pos h0)
      dsimp only at hK
      by_cases c0 : n = 0
      · exact ⟨(([] : List ByteArray), false), ev1 K fun k hk => by simp only [laws_signs.l0]; rw [if_neg h0, hK k hk]; simp only [Option.bind_some]; rw [if_pos c0]⟩
      · obtain ⟨r, K2, hK2⟩ := ih (s.extract n.toNat s.size) (acc ++ [s.extract 0 n.toNat]) (by rw [ByteArray.size_extract]; omega) (by simp; omega)
        exact ⟨r, ev1 (max K K2) fun k hk => by
          simp only [laws_signs.l0]
          rw [if_neg h0, hK k (by omega)]
          simp only [Option.bind_some]
          rw [if_neg c0, if_pos hn0, if_pos hn1, if_pos (by omega)]
          exact hK2 k (by omega)⟩
theorem signs_ev (s : ByteArray) (h : s.size ≤ 2147483647) : ∃ r, Ev (fun k => laws_signs.f k s) r := by
  obtain ⟨r, K, hK⟩ := signs_l0 s.size s [] (Nat.le_refl _) (by simp; omega)
  exact ⟨r, K, fun k hk => by simp only [laws_signs.f]; exact hK k hk⟩

/-- What 'clean' tells of a text: it is short. -/
def Clean1 (most : Int) (s : ByteArray) : Prop := (s.size : Int) ≤ most ∧ ∀ j : Nat, j < s.size → bt s (j : Int) ≠ 0
theorem clean_l1 (most : Int) (s : ByteArray) (hs : s.size ≤ 2147483647) (xs : List ByteArray) (n i : Int) (b : Bool) (hnext : Ev (fun k => laws_clean.l0 k most xs n (wrap64 (i + 1))) b) (d : Nat) : ∀ j : Nat, j + d = s.size → ∃ c, Ev (fun k => laws_clean.l1 k most s xs n i (s.size : Int) (j : Int)) c ∧ (c = true → b = true ∧ ∀ q, j ≤ q → q < s.size → bt s (q : Int) ≠ 0) := by
  obtain ⟨K0, hK0⟩ := hnext
  induction d with
  | zero => intro j hj; exact ⟨b, ev1 K0 fun k hk => by simp only [laws_clean.l1]; rw [if_neg (by omega)]; exact hK0 k hk, fun h => ⟨h, fun q h1 h2 => by omega⟩⟩
  | succ d ih =>
    intro j hj
    obtain ⟨c, ⟨K, hK⟩, hc⟩ := ih (j + 1) (by omega)
    by_cases c0 : bt s (j : Int) = 0
    · exact ⟨false, ev1 0 fun k _ => by simp only [laws_clean.l1]; rw [if_pos (by omega), if_pos (by omega), if_pos (by omega), if_pos c0], fun h => by cases h⟩
    · refine ⟨c, ev1 K fun k hk => ?_, fun h => ⟨(hc h).1, fun q h1 h2 => ?_⟩⟩
      · simp only [laws_clean.l1]
        rw [if_pos (by omega), if_pos (by omega), if_pos (by omega), if_neg c0, wr1 (by omega) (by omega)]
        exact hK k hk
      · by_cases e : q = j
        · rw [e]; exact c0
        · exact (hc h).2 q (by omega) h2
theorem clean_j1 (most : Int) (s : ByteArray) (hs : s.size ≤ 2147483647) (xs : List ByteArray) (n i : Int) (b : Bool) (hnext : Ev (fun k => laws_clean.l0 k most xs n (wrap64 (i + 1))) b) (f : Bool) : ∃ c, Ev (fun k => laws_clean.j1 k most s xs n i f) c ∧ (c = true → f = false ∧ b = true ∧ ∀ q, q < s.size → bt s (q : Int) ≠ 0) := by
  cases f with
  | true => exact ⟨false, ev1 0 fun k _ => by simp only [laws_clean.j1]; rw [if_pos trivial], fun h => by cases h⟩
  | false =>
    obtain ⟨c, ⟨K, hK⟩, hc⟩ := clean_l1 most s hs xs n i b hnext s.size 0 (by omega)
    exact ⟨c, ev1 K fun k hk => by simp only [laws_clean.j1]; rw [if_neg (by simp)]; exact hK k hk, fun h => ⟨rfl, (hc h).1, fun q hq => (hc h).2 q (by omega) hq⟩⟩
/-- Told: each text is UTF-8 by 'signs', short and without a byte 0. -/
def SignsOk (s : ByteArray) : Prop := ∃ l, Ev (fun k => laws_signs.f k s) (l, true)
theorem clean_l0 (most : Int) (xs : List ByteArray) (hx : Fit4 xs) (d : Nat) : ∀ i : Nat, i + d = xs.length → ∃ c, Ev (fun k => laws_clean.l0 k most xs (xs.length : Int) (i : Int)) c ∧ (c = true → ∀ j, i ≤ j → ∀ h : j < xs.length, Clean1 most xs[j] ∧ SignsOk xs[j]) := by
  have hx1 := hx.1
  induction d with
  | zero => intro i hi; exact ⟨true, ev1 0 fun k _ => by simp only [laws_clean.l0]; rw [if_neg (by omega)], fun _ j h1 h2 => by omega⟩
  | succ d ih =>
    intro i hi
    obtain ⟨b, hb, hbt⟩ := ih (i + 1) (by omega)
    have hsz := hx.2 xs[i] (List.getElem_mem (by omega))
    have hr := rdOf_nat ByteArray.empty xs i (by omega)
    obtain ⟨⟨l, f⟩, K, hK⟩ := signs_ev xs[i] hsz
    dsimp only at hK
    have hb' : Ev (fun k => laws_clean.l0 k most xs (xs.length : Int) (wrap64 ((i : Int) + 1))) b := by
      rw [wr1 (by omega) (by omega)]
      exact hb
    cases f with
    | false =>
      obtain ⟨c, ⟨K2, hK2⟩, hc⟩ := clean_j1 most xs[i] hsz xs (xs.length : Int) (i : Int) b hb' true
      refine ⟨c, ev1 (max K K2) fun k hk => ?_, fun h => by have := (hc h).1; cases this⟩
      simp only [laws_clean.l0]
      rw [if_pos (by omega), if_pos (by omega), if_pos (by omega), hr, hK k (by omega)]
      simp only [Option.bind_some]
      rw [if_neg (by simp)]
      exact hK2 k (by omega)
    | true =>
      obtain ⟨c, ⟨K2, hK2⟩, hc⟩ := clean_j1 most xs[i] hsz xs (xs.length : Int) (i : Int) b hb' (decide ((xs[i].size : Int) > most))
      refine ⟨c, ev1 (max K K2) fun k hk => ?_, fun h j h1 h2 => ?_⟩
      · simp only [laws_clean.l0]
        rw [if_pos (by omega), if_pos (by omega), if_pos (by omega), hr, hK k (by omega)]
        simp only [Option.bind_some]
        rw [if_pos trivial]
        exact hK2 k (by omega)
      · obtain ⟨h3, h4, h5⟩ := hc h
        by_cases e : j = i
        · subst e
          exact ⟨⟨by have := of_decide_eq_false h3; omega, h5⟩, l, K, hK⟩
        · exact hbt h4 j (by omega) h2
theorem clean_ev (most : Int) (xs : List ByteArray) (hx : Fit4 xs) : ∃ c, Ev (fun k => laws_clean.f k most xs) c ∧ (c = true → ∀ s ∈ xs, Clean1 most s ∧ SignsOk s) := by
  obtain ⟨c, ⟨K, hK⟩, hc⟩ := clean_l0 most xs hx xs.length 0 (by omega)
  refine ⟨c, ⟨K, fun k hk => by simp only [laws_clean.f]; exact hK k hk⟩, fun h s hs => ?_⟩
  obtain ⟨j, hj, rfl⟩ := List.getElem_of_mem hs
  exact hc h j (by omega) hj
end Go.Proofs.YtpjnebmcbeblkaaDoor.X
namespace Go.Proofs.YtpjnebmcbeblkaaDoor.Sn
open Go.RowKit Go.Lib Go.Proofs.YtpjnebmcbeblkaaDoorW.PrintWords Go.Proofs.YtpjnebmcbeblkaaDoorW.PrintLast Go.Proofs.YtpjnebmcbeblkaaDoorW.PrintMore Go.Proofs.YtpjnebmcbeblkaaDoor.P Go.Proofs.YtpjnebmcbeblkaaDoor.X
/-- The first sign. -/
def dec (x : ByteArray) : Nat × Nat := Lib.decodeGo x
def Valid (x : ByteArray) : Prop := ¬ ((dec x).1 = 65533 ∧ (dec x).2 = 1)
theorem sg_suf (s : ByteArray) (p : Nat) : sg s p = dec (s.extract p s.size) := rfl
theorem dec_L (x : ByteArray) (h : 0 < x.size) : dec x = decodeL x.toList := by
  unfold dec decodeGo decodeL
  rw [if_neg (by omega), ByteArray.toList_eq]
theorem toList_len (x : ByteArray) : x.toList.length = x.size := by rw [ByteArray.toList_eq, Array.length_toList]; rfl
theorem extract_toList (x : ByteArray) (n : Nat) : (x.extract 0 n).toList = x.toList.take n := by
  rw [ByteArray.toList_eq, ByteArray.toList_eq, ByteArray.data_extract, Array.toList_extract]
  simp [List.extract]
theorem sign_inj {x y : ByteArray} (hx : 0 < x.size) (hy : 0 < y.size) (vx : Valid x) (vy : Valid y) (h : (dec x).1 = (dec y).1) : (x.extract 0 (dec x).2).toList = (y.extract 0 (dec y).2).toList := by
  have ne : ∀ z : ByteArray, 0 < z.size → z.toList ≠ [] := fun z hz e => by have := toList_len z; rw [e] at this; simp at this; omega
  unfold Valid at vx vy
  rw [extract_toList, extract_toList]
  rw [dec_L x hx] at h vx ⊢
  rw [dec_L y hy] at h vy ⊢
  rw [← encode_decode _ (ne x hx) vx, ← encode_decode _ (ne y hy) vy, h]
theorem bt_get (x : ByteArray) (j : Nat) : bt x (j : Int) = ((x.get! j).toNat : Int) := by
  unfold bt
  show (if h : j < x.size then _ else _) = _
  split
  · rename_i h
    show ((x.data[j]'h).toNat : Int) = ((x.data[j]!).toNat : Int)
    rw [getElem!_pos x.data j h]
  · rename_i h
    show _ = ((x.data[j]!).toNat : Int)
    rw [getElem!_neg x.data j h]
    rfl
theorem size_l0_val (s : ByteArray) (n : Int) : ∀ (k : Nat) (i r : Int), laws_size.l0 k s n i = some r → 2 ≤ i → n ≤ 4 → r ≠ 0 → r = n ∧ ∀ j : Int, i ≤ j → j < n → 128 ≤ bt s j ∧ bt s j ≤ 191
  | 0, i, r, h, _, _, _ => by simp [laws_size.l0] at h
  | k + 1, i, r, h, h2, h4, hr => by
    rw [laws_size.l0] at h
    by_cases c1 : i < n
    · rw [if_pos c1] at h
      by_cases c2 : 0 ≤ i
      · rw [if_pos c2] at h
        by_cases c3 : i < (s.size : Int)
        · rw [if_pos c3] at h
          by_cases c4 : bt s i < 128
          · rw [if_pos c4] at h; injection h with h; exact absurd h.symm hr
          · rw [if_neg c4] at h
            by_cases c5 : bt s i > 191
            · rw [if_pos c5] at h; injection h with h; exact absurd h.symm hr
            · rw [if_neg c5, wr1 (by omega) (by omega)] at h
              obtain ⟨e1, e2⟩ := size_l0_val s n k (i + 1) r h (by omega) h4 hr
              refine ⟨e1, fun j hj hjn => ?_⟩
              by_cases e : j = i
              · subst e; omega
              · exact e2 j (by omega) hjn
        · rw [if_neg c3] at h; cases h
      · rw [if_neg c2] at h; cases h
    · rw [if_neg c1] at h
      injection h with h
      exact ⟨h.symm, fun j hj hjn => by omega⟩
theorem size_j3_val (s : ByteArray) (n lo hi : Int) (k : Nat) (r : Int) (h : laws_size.j3 k s n lo hi = some r) (h4 : n ≤ 4) (hr : r ≠ 0) : n ≠ 0 ∧ n ≤ s.size ∧ lo ≤ bt s 1 ∧ bt s 1 ≤ hi ∧ r = n ∧ ∀ j : Int, 2 ≤ j → j < n → 128 ≤ bt s j ∧ bt s j ≤ 191 := by
  have j4t : ∀ k, ¬ laws_size.j4 k s n true = some r := fun k g => by
    cases k with
    | zero => simp [laws_size.j4] at g
    | succ k => rw [laws_size.j4, if_pos rfl] at g; injection g with g; exact hr g.symm
  have j4f : ∀ k, laws_size.j4 k s n false = some r → r = n ∧ ∀ j : Int, 2 ≤ j → j < n → 128 ≤ bt s j ∧ bt s j ≤ 191 := fun k g => by
    cases k with
    | zero => simp [laws_size.j4] at g
    | succ k => rw [laws_size.j4, if_neg (by decide)] at g; exact size_l0_val s n k 2 r g (by omega) h4 hr
  cases k with
  | zero => simp [laws_size.j3] at h
  | succ k =>
    rw [laws_size.j3] at h
    by_cases c1 : n = 0
    · rw [if_pos c1] at h; exact absurd h (j4t k)
    · rw [if_neg c1] at h
      by_cases c2 : (s.size : Int) < n
      · rw [if_pos c2] at h; exact absurd h (j4t k)
      · rw [if_neg c2] at h
        by_cases c3 : 1 < (s.size : Int)
        · rw [if_pos c3] at h
          by_cases c4 : bt s 1 < lo
          · rw [if_pos c4] at h; exact absurd h (j4t k)
          · rw [if_neg c4] at h
            by_cases c5 : bt s 1 > hi
            · rw [decide_eq_true c5] at h; exact absurd h (j4t k)
            · rw [decide_eq_false c5] at h
              obtain ⟨e1, e2⟩ := j4f k h
              exact ⟨c1, by omega, by omega, by omega, e1, e2⟩
        · rw [if_neg c3] at h; cases h
/-- What the size of a first sign tells. -/
def Shape (s : ByteArray) (c n : Int) : Prop :=
  ∃ lo hi, (c = 224 ∧ lo = 160 ∧ hi = 191 ∨ c = 237 ∧ lo = 128 ∧ hi = 159 ∨ c = 240 ∧ lo = 144 ∧ hi = 191 ∨ c = 244 ∧ lo = 128 ∧ hi = 143 ∨ (c ≠ 224 ∧ c ≠ 237 ∧ c ≠ 240 ∧ c ≠ 244) ∧ lo = 128 ∧ hi = 191) ∧ n ≠ 0 ∧ n ≤ s.size ∧ lo ≤ bt s 1 ∧ bt s 1 ≤ hi ∧ ∀ j : Int, 2 ≤ j → j < n → 128 ≤ bt s j ∧ bt s j ≤ 191
theorem size_j2_val (s : ByteArray) (c n : Int) (k : Nat) (r : Int) (h : laws_size.j2 k s c n 128 191 = some r) (h4 : n ≤ 4) (hr : r ≠ 0) : r = n ∧ Shape s c n := by
  cases k with
  | zero => simp [laws_size.j2] at h
  | succ k =>
    rw [laws_size.j2] at h
    by_cases c1 : c = 224
    · rw [if_pos c1] at h; obtain ⟨e1, e2, e3, e4, e5, e6⟩ := size_j3_val s n _ _ k r h h4 hr; exact ⟨e5, _, _, .inl ⟨c1, rfl, rfl⟩, e1, e2, e3, e4, e6⟩
    · rw [if_neg c1] at h
      by_cases c2 : c = 237
      · rw [if_pos c2] at h; obtain ⟨e1, e2, e3, e4, e5, e6⟩ := size_j3_val s n _ _ k r h h4 hr; exact ⟨e5, _, _, .inr (.inl ⟨c2, rfl, rfl⟩), e1, e2, e3, e4, e6⟩
      · rw [if_neg c2] at h
        by_cases c3 : c = 240
        · rw [if_pos c3] at h; obtain ⟨e1, e2, e3, e4, e5, e6⟩ := size_j3_val s n _ _ k r h h4 hr; exact ⟨e5, _, _, .inr (.inr (.inl ⟨c3, rfl, rfl⟩)), e1, e2, e3, e4, e6⟩
        · rw [if_neg c3] at h
          by_cases c4 : c = 244
          · rw [if_pos c4] at h; obtain ⟨e1, e2, e3, e4, e5, e6⟩ := size_j3_val s n _ _ k r h h4 hr; exact ⟨e5, _, _, .inr (.inr (.inr (.inl ⟨c4, rfl, rfl⟩))), e1, e2, e3, e4, e6⟩
          · rw [if_neg c4] at h; obtain ⟨e1, e2, e3, e4, e5, e6⟩ := size_j3_val s n _ _ k r h h4 hr; exact ⟨e5, _, _, .inr (.inr (.inr (.inr ⟨⟨c1, c2, c3, c4⟩, rfl, rfl⟩))), e1, e2, e3, e4, e6⟩
/-- The size of a first sign, in one word. -/
theorem size_val (s : ByteArray) (k : Nat) (r : Int) (h : laws_size.f k s = some r) (hr : r ≠ 0) :
    0 < s.size ∧ ((bt s 0 < 128 ∧ r = 1) ∨ ∃ n, r = n ∧ Shape s (bt s 0) n ∧ ((194 ≤ bt s 0 ∧ bt s 0 ≤ 223 ∧ n = 2) ∨ (224 ≤ bt s 0 ∧ bt s 0 ≤ 239 ∧ n = 3) ∨ (240 ≤ bt s 0 ∧ bt s 0 ≤ 244 ∧ n = 4))) := by
  unfold laws_size.f at h
  by_cases c0 : 0 < (s.size : Int)
  · rw [if_pos c0] at h
    refine ⟨by omega, ?_⟩
    by_cases c1 : bt s 0 < 128
    · rw [if_pos c1] at h; injection h with h; exact .inl ⟨c1, h.symm⟩
    · rw [if_neg c1] at h
      refine .inr ?_
      have j2z : ∀ k, ¬ laws_size.j2 k s (bt s 0) 0 128 191 = some r := fun k g => by
        obtain ⟨_, lo, hi, _, e, _⟩ := size_j2_val s _ 0 k r g (by omega) hr
        exact e rfl
      have j1 : ∀ k b, laws_size.j1 k s (bt s 0) 0 128 191 b = some r → (b = true ∨ 240 ≤ bt s 0 ∧ bt s 0 ≤ 244) ∧ ∃ n, r = n ∧ Shape s (bt s 0) n ∧ ((b = true ∧ n = 3) ∨ (b = false ∧ n = 4)) := fun k b g => by
        cases k with
        | zero => simp [laws_size.j1] at g
        | succ k =>
          rw [laws_size.j1] at g
          cases b with
          | true => rw [if_pos rfl] at g; obtain ⟨e1, e2⟩ := size_j2_val s _ 3 k r g (by omega) hr; exact ⟨.inl rfl, 3, e1, e2, .inl ⟨rfl, rfl⟩⟩
          | false =>
            rw [if_neg (by decide)] at g
            by_cases d1 : bt s 0 ≥ 240
            · rw [if_pos d1] at g
              by_cases d2 : bt s 0 ≤ 244
              · rw [if_pos d2] at g; obtain ⟨e1, e2⟩ := size_j2_val s _ 4 k r g (by omega) hr; exact ⟨.inr ⟨d1, d2⟩, 4, e1, e2, .inr ⟨rfl, rfl⟩⟩
              · rw [if_neg d2] at g; exact absurd g (j2z k)
            · rw [if_neg d1] at g; exact absurd g (j2z k)
      have j0 : ∀ k b, laws_size.j0 k s (bt s 0) 0 128 191 b = some r → (b = false ∨ (194 ≤ bt s 0 ∧ bt s 0 ≤ 223)) → ∃ n, r = n ∧ Shape s (bt s 0) n ∧ ((194 ≤ bt s 0 ∧ bt s 0 ≤ 223 ∧ n = 2) ∨ (224 ≤ bt s 0 ∧ bt s 0 ≤ 239 ∧ n = 3) ∨ (240 ≤ bt s 0 ∧ bt s 0 ≤ 244 ∧ n = 4)) := fun k b g hb => by
        cases k with
        | zero => simp [laws_size.j0] at g
        | succ k =>
          rw [laws_size.j0] at g
          cases b with
          | true => rw [if_pos rfl] at g; obtain ⟨e1, e2⟩ := size_j2_val s _ 2 k r g (by omega) hr; exact ⟨2, e1, e2, .inl (by rcases hb with hb | hb; cases hb; omega)⟩
          | false =>
            rw [if_neg (by decide)] at g
            by_cases d1 : bt s 0 ≥ 224
            · rw [if_pos d1] at g
              obtain ⟨e0, n, e1, e2, e3⟩ := j1 k _ g
              refine ⟨n, e1, e2, ?_⟩
              rcases e3 with ⟨e3, e4⟩ | ⟨e3, e4⟩
              · have := of_decide_eq_true e3; exact .inr (.inl ⟨d1, this, e4⟩)
              · have := of_decide_eq_false e3
                rcases e0 with e0 | e0
                · rw [e0] at e3; cases e3
                · exact .inr (.inr ⟨e0.1, e0.2, e4⟩)
            · rw [if_neg d1] at g
              obtain ⟨e0, n, e1, e2, e3⟩ := j1 k _ g
              rcases e0 with e0 | e0
              · cases e0
              · omega
      by_cases c2 : bt s 0 ≥ 194
      · rw [if_pos c2] at h
        refine j0 k _ h ?_
        by_cases c3 : bt s 0 ≤ 223
        · exact .inr ⟨c2, c3⟩
        · exact .inl (decide_eq_false c3)
      · rw [if_neg c2] at h; exact j0 k _ h (.inl rfl)
  · rw [if_neg c0] at h; cases h
theorem size_dec (s : ByteArray) (k : Nat) (r : Int) (h : laws_size.f k s = some r) (hr : r ≠ 0) : 0 < s.size ∧ r = ((dec s).2 : Int) ∧ Valid s := by
  obtain ⟨h0, hs⟩ := size_val s k r h hr
  refine ⟨h0, ?_⟩
  have hd : dec s = decodeN s.size (s.get! 0).toNat (s.get! 1).toNat (s.get! 2).toNat (s.get! 3).toNat := by
    unfold dec decodeGo
    rw [if_neg (by omega), decode_at]
    rfl
  unfold Valid
  rw [hd]
  have e0 : bt s 0 = ((s.get! 0).toNat : Int) := bt_get s 0
  have e1 : bt s 1 = ((s.get! 1).toNat : Int) := bt_get s 1
  have e2 : bt s 2 = ((s.get! 2).toNat : Int) := bt_get s 2
  have e3 : bt s 3 = ((s.get! 3).toNat : Int) := bt_get s 3
  have l0 := UInt8.toNat_lt (s.get! 0)
  have l1 := UInt8.toNat_lt (s.get! 1)
  have l2 := UInt8.toNat_lt (s.get! 2)
  have l3 := UInt8.toNat_lt (s.get! 3)
  generalize (s.get! 0).toNat = b0 at *
  generalize (s.get! 1).toNat = b1 at *
  generalize (s.get! 2).toNat = b2 at *
  generalize (s.get! 3).toNat = b3 at *
  rcases hs with ⟨c1, rfl⟩ | ⟨n, rfl, ⟨lo, hi, sh, n0, ns, m1, m2, m3⟩, q⟩
  · have : decodeN s.size b0 b1 b2 b3 = (b0, 1) := by unfold decodeN; rw [if_pos (by omega)]
    rw [this]
    exact ⟨rfl, by simp; omega⟩
  · rw [e0] at sh q
    rw [e1] at m1 m2
    have f2 := m3 2 (by omega)
    have f3 := m3 3 (by omega)
    rw [e2] at f2
    rw [e3] at f3
    rcases q with ⟨q1, q2, rfl⟩ | ⟨q1, q2, rfl⟩ | ⟨q1, q2, rfl⟩
    · have : decodeN s.size b0 b1 b2 b3 = (b0 % 32 * 64 + b1 % 64, 2) := by
        unfold decodeN
        repeat' split
        all_goals first | (exfalso; omega) | rfl
      rw [this]
      exact ⟨rfl, by simp⟩
    · have f2 := f2 (by omega)
      have : decodeN s.size b0 b1 b2 b3 = (b0 % 16 * 4096 + b1 % 64 * 64 + b2 % 64, 3) := by
        unfold decodeN
        repeat' split
        all_goals first | (exfalso; omega) | rfl
      rw [this]
      exact ⟨rfl, by simp⟩
    · have f2 := f2 (by omega)
      have f3 := f3 (by omega)
      have : decodeN s.size b0 b1 b2 b3 = (b0 % 8 * 262144 + b1 % 64 * 4096 + b2 % 64 * 64 + b3 % 64, 4) := by
        unfold decodeN
        repeat' split
        all_goals first | (exfalso; omega) | rfl
      rw [this]
      exact ⟨rfl, by simp⟩
/-- l are the signs of x, all valid. -/
def Chk : List ByteArray → ByteArray → Prop
  | [], x => x.size = 0
  | c :: l, x => 0 < x.size ∧ Valid x ∧ c = x.extract 0 (dec x).2 ∧ Chk l (x.extract (dec x).2 x.size)
theorem signs_val : ∀ (k : Nat) (x : ByteArray) (acc l : List ByteArray), laws_signs.l0 k x acc = some (l, true) → ∃ l', l = acc ++ l' ∧ Chk l' x
  | 0, x, acc, l, h => by simp [laws_signs.l0] at h
  | k + 1, x, acc, l, h => by
    rw [laws_signs.l0] at h
    by_cases c0 : x.toList = ([] : List UInt8)
    · rw [if_pos c0] at h
      injection h with h
      simp only [Prod.mk.injEq] at h
      have := toList_len x
      rw [c0] at this
      exact ⟨[], by simp [h.1], this.symm⟩
    · rw [if_neg c0] at h
      obtain ⟨n, hn, h⟩ := Option.bind_eq_some_iff.1 h
      by_cases c1 : n = 0
      · rw [if_pos c1] at h; injection h with h; simp at h
      · rw [if_neg c1] at h
        obtain ⟨h0, e, hv⟩ := size_dec x k n hn c1
        repeat' split at h
        all_goals try cases h
        obtain ⟨l', e1, e2⟩ := signs_val k _ _ l h
        have en : n.toNat = (dec x).2 := by omega
        rw [en] at e1 e2
        exact ⟨_ :: l', by rw [e1, List.append_assoc]; rfl, h0, hv, rfl, e2⟩
theorem signs_chk {k : Nat} {x : ByteArray} {l : List ByteArray} (h : laws_signs.f k x = some (l, true)) : Chk l x := by
  obtain ⟨l', e, h⟩ := signs_val k x [] l h
  rw [List.nil_append] at e
  rw [e]
  exact h
/-- The suffix's suffix. -/
theorem suf_suf (s : ByteArray) (p n : Nat) (h : p + n ≤ s.size) : (s.extract p s.size).extract n (s.extract p s.size).size = s.extract (p + n) s.size := by
  have hz : (s.extract p s.size).size = s.size - p := by rw [ByteArray.size_extract]; omega
  rw [hz, ByteArray.extract_extract]
  congr 1
  omega
/-- Each code point of a valid text is one of its signs'. -/
theorem runes_mem (s : ByteArray) : ∀ (l : List ByteArray) (k p : Nat), Chk l (s.extract p s.size) → p ≤ s.size → ∀ r ∈ runesL s k p, ∃ c ∈ l, ∃ x, 0 < x.size ∧ Valid x ∧ c = x.extract 0 (dec x).2 ∧ r = ((dec x).1 : Int)
  | [], k, p, h, hp, r, hr => by
    have hz : (s.extract p s.size).size = s.size - p := by rw [ByteArray.size_extract]; omega
    have h : (s.extract p s.size).size = 0 := h
    cases k with
    | zero => cases hr
    | succ k => rw [runesL, if_neg (by omega)] at hr; cases hr
  | c :: l, k, p, h, hp, r, hr => by
    obtain ⟨h0, hv, hc, hl⟩ := h
    have hz : (s.extract p s.size).size = s.size - p := by rw [ByteArray.size_extract]; omega
    cases k with
    | zero => cases hr
    | succ k =>
      rw [runesL, if_pos (by omega)] at hr
      have hle := sg_le s p (by omega)
      rw [← sg_suf, suf_suf s p _ hle] at hl
      rcases List.mem_cons.1 hr with hr | hr
      · exact ⟨c, List.mem_cons_self, _, h0, hv, hc, hr⟩
      · obtain ⟨c', hc', hx⟩ := runes_mem s l k _ hl hle r hr
        exact ⟨c', List.mem_cons_of_mem _ hc', hx⟩
end Go.Proofs.YtpjnebmcbeblkaaDoor.Sn
namespace Go.Proofs.YtpjnebmcbeblkaaDoor.Sn
open Go.RowKit Go.Lib Go.Proofs.YtpjnebmcbeblkaaDoorW.PrintWords Go.Proofs.YtpjnebmcbeblkaaDoorW.PrintLast Go.Proofs.YtpjnebmcbeblkaaDoorW.PrintMore Go.Proofs.YtpjnebmcbeblkaaDoor.P Go.Proofs.YtpjnebmcbeblkaaDoor.X
theorem blank_none (s : ByteArray) (e : Nat) : blank s e 0 = s := rfl
theorem scan_short {o : Sp} (ho : o.skip = false) (hn : o.lines = false) (eof : Bool) (s : ByteArray) : ∀ (l : List ByteArray) (k p : Nat) (rc : Int) (head nn : Bool), Chk l (s.extract p s.size) → (∀ c ∈ l, ∀ x, 0 < x.size → Valid x → c = x.extract 0 (dec x).2 → isD o ((dec x).1 : Int) = false) → p ≤ s.size → s.size < p + k → rc + l.length < o.max →
    scan o eof k s p 0 p rc head nn = if eof then ⟨s.size, some (0, s.size), s⟩ else ⟨0, none, s⟩
  | l, 0, p, rc, head, nn, h, hd, hp, hk, hm => by omega
  | [], k + 1, p, rc, head, nn, h, hd, hp, hk, hm => by
    have hz : (s.extract p s.size).size = s.size - p := by rw [ByteArray.size_extract]; omega
    have h : (s.extract p s.size).size = 0 := h
    have e : p = s.size := by omega
    rw [scan, if_neg (by omega), e, Nat.sub_self, blank_none]
  | c :: l, k + 1, p, rc, head, nn, h, hd, hp, hk, hm => by
    obtain ⟨h0, hv, hc, hl⟩ := h
    have hz : (s.extract p s.size).size = s.size - p := by rw [ByteArray.size_extract]; omega
    have hlt : p < s.size := by omega
    have hle := sg_le s p hlt
    have hg := sg_pos s p hlt
    have hdl := hd c List.mem_cons_self _ h0 hv hc
    rw [← sg_suf] at hdl hl
    rw [suf_suf s p _ hle] at hl
    simp only [List.length_cons, Int.natCast_add, Int.natCast_one] at hm
    rw [scan, if_pos hlt, if_neg (by rw [space_off ho]; decide), put_same, hn, if_neg (by simp), hdl, if_pos (by simp; omega)]
    exact scan_short ho hn eof s l k _ (rc + 1) false _ hl (fun c' hc' => hd c' (List.mem_cons_of_mem _ hc')) hle (by omega) (by omega)
theorem call_short {o : Sp} (ho : o.skip = false) (hn : o.lines = false) (eof : Bool) (s : ByteArray) (l : List ByteArray) (h : Chk l s) (hd : ∀ c ∈ l, ∀ x, 0 < x.size → Valid x → c = x.extract 0 (dec x).2 → isD o ((dec x).1 : Int) = false) (h0 : 0 < l.length) (hm : (l.length : Int) < o.max) :
    call o s eof = if eof then ⟨s.size, some (0, s.size), s⟩ else ⟨0, none, s⟩ := by
  have hs : 0 < s.size := by
    cases l with
    | nil => simp at h0
    | cons c l => exact h.1
  unfold call
  rw [show (s.size == 0) = false from beq_eq_false_iff_ne.2 (by omega), Bool.and_false, if_neg (by decide)]
  exact scan_short ho hn eof s l (s.size + 1) 0 0 true false (by rw [ByteArray.extract_zero_size]; exact h) hd (Nat.zero_le _) (by omega) (by omega)
/-- A sign that is not among the ends' signs ends nothing. -/
theorem isD_off {o : Sp} {a : ByteArray} (ho : o.ends = runes a) {la : List ByteArray} (ha : Chk la a) {c x : ByteArray} (hx : 0 < x.size) (hv : Valid x) (hc : c = x.extract 0 (dec x).2) (hno : ∀ e ∈ la, e.toList ≠ c.toList) : isD o ((dec x).1 : Int) = false := by
  unfold isD
  rw [ho, List.any_eq_false]
  intro r hr g
  have g : r = ((dec x).1 : Int) := by simpa using g
  obtain ⟨e, he, y, hy, vy, ey, er⟩ := runes_mem a la a.size 0 (by rw [ByteArray.extract_zero_size]; exact ha) (Nat.zero_le _) r hr
  refine hno e he ?_
  rw [ey, hc]
  exact sign_inj hy hx vy hv (by omega)
theorem chk_len : ∀ (l : List ByteArray) (x : ByteArray), Chk l x → l.length ≤ x.size
  | [], x, h => Nat.zero_le _
  | c :: l, x, h => by
    obtain ⟨h0, hv, hc, hl⟩ := h
    have h1 := chk_len l _ hl
    have h2 : 1 ≤ (dec x).2 := by
      have := sg_pos x 0 h0
      rwa [sg_suf, ByteArray.extract_zero_size] at this
    rw [ByteArray.size_extract] at h1
    rw [List.length_cons]
    omega
theorem has_l0 (c : ByteArray) (la : List ByteArray) (hl : la.length ≤ 9223372036854775806) (d : Nat) : ∀ i : Nat, i + d = la.length → ∃ b, Ev (fun k => laws_has.l0 k c la (la.length : Int) (i : Int)) b ∧ (b = false → ∀ j, i ≤ j → ∀ h : j < la.length, la[j].toList ≠ c.toList) := by
  induction d with
  | zero => intro i hi; exact ⟨false, ev1 0 fun k _ => by simp only [laws_has.l0]; rw [if_neg (by omega)], fun _ j h1 h2 => by omega⟩
  | succ d ih =>
    intro i hi
    obtain ⟨b, ⟨K, hK⟩, hb⟩ := ih (i + 1) (by omega)
    have hr := rdOf_nat ByteArray.empty la i (by omega)
    by_cases e : la[i].toList = c.toList
    · exact ⟨true, ev1 0 fun k _ => by simp only [laws_has.l0]; rw [if_pos (by omega), if_pos (by omega), if_pos (by omega), hr, if_pos e], fun h => by cases h⟩
    · refine ⟨b, ev1 K fun k hk => ?_, fun h j h1 h2 => ?_⟩
      · simp only [laws_has.l0]
        rw [if_pos (by omega), if_pos (by omega), if_pos (by omega), hr, if_neg e, wr1 (by omega) (by omega)]
        exact hK k hk
      · by_cases q : j = i
        · subst q; exact e
        · exact hb h j (by omega) h2
theorem has_ev {a : ByteArray} {la : List ByteArray} (ha : Ev (fun k => laws_signs.f k a) (la, true)) (hl : la.length ≤ 9223372036854775806) (c : ByteArray) : ∃ b, Ev (fun k => laws_has.f k a c) b ∧ (b = false → ∀ e ∈ la, e.toList ≠ c.toList) := by
  obtain ⟨b, ⟨K, hK⟩, hb⟩ := has_l0 c la hl la.length 0 (by omega)
  obtain ⟨K2, hK2⟩ := ha
  dsimp only at hK hK2
  refine ⟨b, ⟨max K K2, fun k hk => ?_⟩, fun h e he => ?_⟩
  · simp only [laws_has.f]
    rw [hK2 k (by omega)]
    exact hK k (by omega)
  · obtain ⟨j, hj, rfl⟩ := List.getElem_of_mem he
    exact hb h j (by omega) hj
theorem hasOf_l0 {a f : ByteArray} {la lf : List ByteArray} (ha : Ev (fun k => laws_signs.f k a) (la, true)) (hla : la.length ≤ 9223372036854775806) (hf : Ev (fun k => laws_signs.f k f) (lf, true)) (hlf : lf.length ≤ 9223372036854775806) (sk ln : Bool) (mx : Int) (l : List ByteArray) (hl : l.length ≤ 9223372036854775806) (d : Nat) :
    ∀ i : Nat, i + d = l.length → ∃ b, Ev (fun k => laws_hasOf.l0 k l (l.length : Int) (i : Int) a f sk ln mx) b ∧ (b = false → ∀ j, i ≤ j → ∀ h : j < l.length, ∀ e ∈ la, e.toList ≠ l[j].toList) := by
  induction d with
  | zero => intro i hi; exact ⟨false, ev1 0 fun k _ => by simp only [laws_hasOf.l0]; rw [if_neg (by omega)], fun _ j h1 h2 => by omega⟩
  | succ d ih =>
    intro i hi
    obtain ⟨b, ⟨K, hK⟩, hb⟩ := ih (i + 1) (by omega)
    have hr := rdOf_nat ByteArray.empty l i (by omega)
    obtain ⟨b1, ⟨K1, hK1⟩, hb1⟩ := has_ev ha hla l[i]
    obtain ⟨b2, ⟨K2, hK2⟩, hb2⟩ := has_ev hf hlf l[i]
    dsimp only at hK1 hK2
    cases b1 with
    | true => exact ⟨true, ev1 K1 fun k hk => by simp only [laws_hasOf.l0]; rw [if_pos (by omega), if_pos (by omega), if_pos (by omega), hr, hK1 k hk]; simp, fun h => by cases h⟩
    | false =>
      cases b2 with
      | true => exact ⟨true, ev1 (max K1 K2) fun k hk => by simp only [laws_hasOf.l0]; rw [if_pos (by omega), if_pos (by omega), if_pos (by omega), hr, hK1 k (by omega), hK2 k (by omega)]; simp, fun h => by cases h⟩
      | false =>
        refine ⟨b, ev1 (max K (max K1 K2)) fun k hk => ?_, fun h j h1 h2 => ?_⟩
        · simp only [laws_hasOf.l0]
          rw [if_pos (by omega), if_pos (by omega), if_pos (by omega), hr, hK1 k (by omega), hK2 k (by omega), wr1 (by omega) (by omega)]
          exact hK k (by omega)
        · by_cases q : j = i
          · subst q; exact hb1 rfl
          · exact hb h j (by omega) h2
theorem hasOf_ev {a f : ByteArray} {la lf : List ByteArray} (ha : Ev (fun k => laws_signs.f k a) (la, true)) (hla : la.length ≤ 9223372036854775806) (hf : Ev (fun k => laws_signs.f k f) (lf, true)) (hlf : lf.length ≤ 9223372036854775806) (sk ln : Bool) (mx : Int) (l : List ByteArray) (hl : l.length ≤ 9223372036854775806) :
    ∃ b, Ev (fun k => laws_hasOf.f k l a f sk ln mx) b ∧ (b = false → ∀ c ∈ l, ∀ e ∈ la, e.toList ≠ c.toList) := by
  obtain ⟨b, ⟨K, hK⟩, hb⟩ := hasOf_l0 ha hla hf hlf sk ln mx l hl l.length 0 (by omega)
  refine ⟨b, ⟨K, fun k hk => by simp only [laws_hasOf.f]; exact hK k hk⟩, fun h c hc => ?_⟩
  obtain ⟨j, hj, rfl⟩ := List.getElem_of_mem hc
  exact hb h j (by omega) hj
end Go.Proofs.YtpjnebmcbeblkaaDoor.Sn
namespace Go.Proofs.YtpjnebmcbeblkaaDoor.Sn
open Go.RowKit Go.Lib Go.Proofs.YtpjnebmcbeblkaaDoorW.PrintWords Go.Proofs.YtpjnebmcbeblkaaDoorW.PrintLast Go.Proofs.YtpjnebmcbeblkaaDoorW.PrintMore Go.Proofs.YtpjnebmcbeblkaaDoor.P Go.Proofs.YtpjnebmcbeblkaaDoor.X
theorem dec_N (s : ByteArray) (h : 0 < s.size) : dec s = decodeN s.size (s.get! 0).toNat (s.get! 1).toNat (s.get! 2).toNat (s.get! 3).toNat := by
  unfold dec decodeGo
  rw [if_neg (by omega), decode_at]
  rfl
theorem dec_pos (x : ByteArray) (h : 0 < x.size) : 1 ≤ (dec x).2 := by
  have := sg_pos x 0 h
  rwa [sg_suf, ByteArray.extract_zero_size] at this
theorem dec_le (x : ByteArray) (h : 0 < x.size) : (dec x).2 ≤ x.size := by
  have := sg_le x 0 h
  rw [sg_suf, ByteArray.extract_zero_size] at this
  omega
theorem get_app (a b : ByteArray) (j : Nat) (h : j < a.size) : (a ++ b).get! j = a.get! j := by
  have hs : a.size = a.data.size := rfl
  show (a ++ b).data[j]! = a.data[j]!
  rw [ByteArray.data_append, getElem!_pos a.data j (by omega), getElem!_pos _ j (by rw [Array.size_append]; omega), Array.getElem_append_left]
theorem get_out (a : ByteArray) (j : Nat) (h : ¬ j < a.size) : a.get! j = 0 := by
  show a.data[j]! = 0
  rw [getElem!_neg a.data j h]
  rfl
/-- One sign, valid. -/
def Piece (c : ByteArray) : Prop := 0 < c.size ∧ Valid c ∧ (dec c).2 = c.size
theorem decodeN_more (m b0 b1 b2 b3 n' d1 d2 d3 : Nat) (h0 : 0 < m) (hv : ¬ ((decodeN m b0 b1 b2 b3).1 = 65533 ∧ (decodeN m b0 b1 b2 b3).2 = 1)) (hn : m ≤ n')
    (h1 : 1 < m → d1 = b1) (h2 : 2 < m → d2 = b2) (h3 : 3 < m → d3 = b3) : decodeN n' b0 d1 d2 d3 = decodeN m b0 b1 b2 b3 := by
  unfold decodeN at *
  by_cases c0 : b0 < 128
  · rw [if_pos c0, if_pos c0]
  · rw [if_neg c0] at hv
    rw [if_neg c0, if_neg c0]
    by_cases c1 : b0 / 32 = 6 ∧ (1 < m ∧ b1 / 64 = 2)
    · rw [if_pos c1] at hv
      obtain rfl := h1 c1.2.1
      rw [if_pos c1, if_pos ⟨c1.1, by omega, c1.2.2⟩]
    · rw [if_neg c1] at hv
      by_cases c2 : b0 / 16 = 14 ∧ (1 < m ∧ b1 / 64 = 2) ∧ (2 < m ∧ b2 / 64 = 2)
      · rw [if_pos c2] at hv
        obtain rfl := h1 c2.2.1.1
        obtain rfl := h2 c2.2.2.1
        rw [if_neg c1, if_pos c2, if_neg (by omega), if_pos ⟨c2.1, ⟨by omega, c2.2.1.2⟩, by omega, c2.2.2.2⟩]
      · rw [if_neg c2] at hv
        by_cases c3 : b0 / 8 = 30 ∧ (1 < m ∧ b1 / 64 = 2) ∧ (2 < m ∧ b2 / 64 = 2) ∧ (3 < m ∧ b3 / 64 = 2)
        · rw [if_pos c3] at hv
          obtain rfl := h1 c3.2.1.1
          obtain rfl := h2 c3.2.2.1.1
          obtain rfl := h3 c3.2.2.2.1
          rw [if_neg c1, if_neg c2, if_pos c3, if_neg (by omega), if_neg (by omega), if_pos ⟨c3.1, ⟨by omega, c3.2.1.2⟩, ⟨by omega, c3.2.2.1.2⟩, by omega, c3.2.2.2.2⟩]
        · rw [if_neg c3] at hv
          exact absurd ⟨rfl, rfl⟩ hv
theorem dec_more {c : ByteArray} (h0 : 0 < c.size) (hv : Valid c) (r : ByteArray) : dec (c ++ r) = dec c := by
  have hs : (c ++ r).size = c.size + r.size := ByteArray.size_append
  unfold Valid at hv
  rw [dec_N c h0] at hv ⊢
  rw [dec_N _ (by omega), get_app c r 0 h0]
  refine decodeN_more _ _ _ _ _ _ _ _ _ h0 hv (by omega) ?_ ?_ ?_ <;> (intro h; rw [get_app c r _ h])
/-- A valid text's first sign, by itself. -/
theorem decodeN_less (n b0 b1 b2 b3 m d1 d2 d3 : Nat) (hv : ¬ ((decodeN n b0 b1 b2 b3).1 = 65533 ∧ (decodeN n b0 b1 b2 b3).2 = 1)) (hm : (decodeN n b0 b1 b2 b3).2 ≤ m) (hn : m ≤ n)
    (h1 : 1 < m → d1 = b1) (h2 : 2 < m → d2 = b2) (h3 : 3 < m → d3 = b3) : decodeN m b0 d1 d2 d3 = decodeN n b0 b1 b2 b3 := by
  unfold decodeN at *
  by_cases c0 : b0 < 128
  · rw [if_pos c0, if_pos c0]
  · rw [if_neg c0] at hv hm
    rw [if_neg c0, if_neg c0]
    by_cases c1 : b0 / 32 = 6 ∧ (1 < n ∧ b1 / 64 = 2)
    · rw [if_pos c1] at hv hm
      rw [if_pos c1]
      by_cases q : b0 % 32 * 64 + b1 % 64 ≥ 128
      · rw [if_pos q] at hm
        obtain rfl := h1 (by simp only at hm; omega)
        rw [if_pos ⟨c1.1, by simp only at hm; omega, c1.2.2⟩]
      · rw [if_neg q] at hv; exact absurd ⟨rfl, rfl⟩ hv
    · rw [if_neg c1] at hv hm
      rw [if_neg c1]
      by_cases c2 : b0 / 16 = 14 ∧ (1 < n ∧ b1 / 64 = 2) ∧ (2 < n ∧ b2 / 64 = 2)
      · rw [if_pos c2] at hv hm
        rw [if_pos c2]
        split at hv
        · rename_i q
          rw [if_pos q] at hm
          simp only at hm
          obtain rfl := h1 (by omega)
          obtain rfl := h2 (by omega)
          rw [if_neg (by omega), if_pos ⟨c2.1, ⟨by omega, c2.2.1.2⟩, by omega, c2.2.2.2⟩]
        · exact absurd ⟨rfl, rfl⟩ hv
      · rw [if_neg c2] at hv hm
        rw [if_neg c2]
        by_cases c3 : b0 / 8 = 30 ∧ (1 < n ∧ b1 / 64 = 2) ∧ (2 < n ∧ b2 / 64 = 2) ∧ (3 < n ∧ b3 / 64 = 2)
        · rw [if_pos c3] at hv hm
          rw [if_pos c3]
          split at hv
          · rename_i q
            rw [if_pos q] at hm
            simp only at hm
            obtain rfl := h1 (by omega)
            obtain rfl := h2 (by omega)
            obtain rfl := h3 (by omega)
            rw [if_neg (by omega), if_neg (by omega), if_pos ⟨c3.1, ⟨by omega, c3.2.1.2⟩, ⟨by omega, c3.2.2.1.2⟩, by omega, c3.2.2.2.2⟩]
          · exact absurd ⟨rfl, rfl⟩ hv
        · rw [if_neg c3] at hv; exact absurd ⟨rfl, rfl⟩ hv
theorem piece_of {x : ByteArray} (h0 : 0 < x.size) (hv : Valid x) : Piece (x.extract 0 (dec x).2) ∧ dec (x.extract 0 (dec x).2) = dec x := by
  have hp := dec_pos x h0
  have hl := dec_le x h0
  have hs : (x.extract 0 (dec x).2).size = (dec x).2 := by rw [ByteArray.size_extract]; omega
  have hx : x = x.extract 0 (dec x).2 ++ x.extract (dec x).2 x.size := by
    rw [← ByteArray.extract_eq_extract_append_extract _ (Nat.zero_le _) hl, ByteArray.extract_zero_size]
  have hd : dec (x.extract 0 (dec x).2) = dec x := by
    have hg : ∀ j, j < (dec x).2 → (x.extract 0 (dec x).2).get! j = x.get! j := fun j hj => by
      conv => rhs; rw [hx]
      rw [get_app _ _ j (by omega)]
    rw [dec_N (x.extract 0 (dec x).2) (by omega), hs, hg 0 (by omega)]
    conv => rhs; rw [dec_N x h0]
    unfold Valid at hv
    refine decodeN_less _ _ _ _ _ _ _ _ _ (by rw [← dec_N x h0]; exact hv) (by rw [← dec_N x h0]; exact Nat.le_refl _) hl ?_ ?_ ?_ <;> (intro h; rw [hg _ h])
  refine ⟨⟨by omega, ?_, by rw [hd, hs]⟩, hd⟩
  unfold Valid at hv ⊢
  rw [hd]; exact hv
def catB : List ByteArray → ByteArray
  | [] => ByteArray.empty
  | c :: l => c ++ catB l
theorem catB_append : ∀ a b : List ByteArray, catB (a ++ b) = catB a ++ catB b
  | [], b => by rw [List.nil_append, catB, ByteArray.empty_append]
  | c :: a, b => by rw [List.cons_append, catB, catB, catB_append a b, ByteArray.append_assoc]
theorem size_empty {x : ByteArray} (h : x.size = 0) : x = ByteArray.empty := by
  apply ByteArray.ext
  exact Array.eq_empty_of_size_eq_zero h
theorem chk_cat : ∀ (l : List ByteArray) (x : ByteArray), Chk l x → x = catB l ∧ ∀ c ∈ l, Piece c
  | [], x, h => ⟨size_empty h, by simp⟩
  | c :: l, x, h => by
    obtain ⟨h0, hv, hc, hl⟩ := h
    obtain ⟨e, hp⟩ := chk_cat l _ hl
    refine ⟨?_, ?_⟩
    · rw [catB, ← e, hc, ← ByteArray.extract_eq_extract_append_extract _ (Nat.zero_le _) (dec_le x h0), ByteArray.extract_zero_size]
    · intro d hd
      rcases List.mem_cons.1 hd with rfl | hd
      · rw [hc]; exact (piece_of h0 hv).1
      · exact hp d hd
theorem cat_chk : ∀ (l : List ByteArray), (∀ c ∈ l, Piece c) → Chk l (catB l)
  | [], h => rfl
  | c :: l, h => by
    obtain ⟨h0, hv, hz⟩ := h c List.mem_cons_self
    have hd : dec (c ++ catB l) = dec c := dec_more h0 hv _
    have hs : (c ++ catB l).size = c.size + (catB l).size := ByteArray.size_append
    refine ⟨by rw [catB]; omega, ?_, ?_, ?_⟩
    · rw [catB]; unfold Valid at hv ⊢; rw [hd]; exact hv
    · rw [catB, hd, ByteArray.extract_append_eq_left hz]
    · rw [catB, hd, ByteArray.extract_append_eq_right hz (by rw [hs])]
      exact cat_chk l fun d hd => h d (List.mem_cons_of_mem _ hd)
/-- How many signs behind an end belong to it. -/
def tailL (D F : ByteArray → Bool) : List ByteArray → Nat
  | [] => 0
  | c :: l => if D c || F c then tailL D F l + 1 else 0
/-- How many signs the first sentence has; none: it has no end. -/
def firstL (D F : ByteArray → Bool) (mx : Int) : List ByteArray → Int → Option Nat
  | [], _ => none
  | c :: l, rc => if !(D c) && decide (rc + 1 < mx) then (firstL D F mx l (rc + 1)).map (· + 1) else some (tailL D F l + 1)
def sentL (D F : ByteArray → Bool) (mx : Int) : Nat → List ByteArray → List (List ByteArray)
  | 0, _ => []
  | k + 1, [] => []
  | k + 1, c :: l => match firstL D F mx (c :: l) 0 with
    | some n => (c :: l).take n :: sentL D F mx k ((c :: l).drop n)
    | none => [c :: l]
def dR (o : Sp) (c : ByteArray) : Bool := isD o ((dec c).1 : Int)
def fR (o : Sp) (c : ByteArray) : Bool := isF o ((dec c).1 : Int)
/-- Nothing of l is left out. -/
def Sees (o : Sp) (l : List ByteArray) : Prop := ∀ c ∈ l, Piece c ∧ space o (dec c).1 = false ∧ (o.lines && ((dec c).1 : Int) == 10) = false
theorem Sees.tl {o : Sp} {c : ByteArray} {l : List ByteArray} (h : Sees o (c :: l)) : Sees o l := fun d hd => h d (List.mem_cons_of_mem _ hd)
/-- At p the signs l follow. -/
theorem at_sg {s : ByteArray} {p : Nat} {c : ByteArray} {l : List ByteArray} (hc : Piece c) (h : s.extract p s.size = c ++ catB l) (hp : p ≤ s.size) : p < s.size ∧ sg s p = dec c ∧ (sg s p).2 = c.size ∧ s.extract (p + c.size) s.size = catB l ∧ p + c.size ≤ s.size := by
  have hz : (s.extract p s.size).size = s.size - p := by rw [ByteArray.size_extract]; omega
  have hs : (c ++ catB l).size = c.size + (catB l).size := ByteArray.size_append
  rw [h] at hz
  have h0 := hc.1
  have hsg : sg s p = dec c := by rw [sg_suf, h, dec_more hc.1 hc.2.1]
  refine ⟨by omega, hsg, by rw [hsg, hc.2.2], ?_, by omega⟩
  rw [← suf_suf s p c.size (by omega), h, ByteArray.extract_append_eq_right rfl (by rw [hs])]
theorem tail_L {o : Sp} (s : ByteArray) (st : Nat) (nn : Bool) : ∀ (l : List ByteArray) (k p : Nat), Sees o l → s.extract p s.size = catB l → p ≤ s.size → s.size < p + k →
    tail o st k s p p nn = ⟨p + (catB (l.take (tailL (dR o) (fR o) l))).size, some (st, p + (catB (l.take (tailL (dR o) (fR o) l))).size), s⟩
  | l, 0, p, h, he, hp, hk => by omega
  | [], k + 1, p, h, he, hp, hk => by
    have hz : (s.extract p s.size).size = s.size - p := by rw [ByteArray.size_extract]; omega
    rw [he] at hz
    have : (catB []).size = 0 := rfl
    rw [tail, if_neg (by omega)]
    rfl
  | c :: l, k + 1, p, h, he, hp, hk => by
    obtain ⟨hc, h1, h2⟩ := h c List.mem_cons_self
    obtain ⟨hlt, hsg, hsz, hrest, hle⟩ := at_sg hc he hp
    have h0 := hc.1
    rw [tail, if_pos hlt, hsg, h1, if_neg (by decide)]
    by_cases e : (isD o ((dec c).1 : Int) || isF o ((dec c).1 : Int)) = true
    · rw [if_pos e, put_same, show (dec c).2 = c.size from hc.2.2, tail_L s st nn l k (p + c.size) h.tl hrest hle (by omega)]
      have : tailL (dR o) (fR o) (c :: l) = tailL (dR o) (fR o) l + 1 := by rw [tailL]; exact if_pos e
      rw [this, List.take_succ_cons, catB, ByteArray.size_append, Nat.add_assoc]
    · rw [if_neg e]
      have : tailL (dR o) (fR o) (c :: l) = 0 := by rw [tailL]; exact if_neg e
      rw [this]
      rfl
theorem scan_L {o : Sp} (eof : Bool) (s : ByteArray) (st : Nat) : ∀ (l : List ByteArray) (k p : Nat) (rc : Int) (head : Bool), Sees o l → s.extract p s.size = catB l → p ≤ s.size → s.size < p + k →
    scan o eof k s p st p rc head false = match firstL (dR o) (fR o) o.max l rc with
      | some n => ⟨p + (catB (l.take n)).size, some (st, p + (catB (l.take n)).size), s⟩
      | none => if eof then ⟨s.size, some (st, s.size), s⟩ else ⟨st, none, s⟩
  | l, 0, p, rc, head, h, he, hp, hk => by omega
  | [], k + 1, p, rc, head, h, he, hp, hk => by
    have hz : (s.extract p s.size).size = s.size - p := by rw [ByteArray.size_extract]; omega
    rw [he] at hz
    have h0 : (catB []).size = 0 := rfl
    have e : p = s.size := by omega
    rw [scan, if_neg (by omega), e, Nat.sub_self, blank_none]
    rfl
  | c :: l, k + 1, p, rc, head, h, he, hp, hk => by
    obtain ⟨hc, h1, h2⟩ := h c List.mem_cons_self
    obtain ⟨hlt, hsg, hsz, hrest, hle⟩ := at_sg hc he hp
    have h0 := hc.1
    rw [scan, if_pos hlt, hsg, h1, if_neg (by decide), h2, if_neg (by decide), put_same, show (dec c).2 = c.size from hc.2.2]
    by_cases e : (!(isD o ((dec c).1 : Int)) && decide (rc + 1 < o.max)) = true
    · rw [if_pos e, Bool.false_or, scan_L eof s st l k (p + c.size) (rc + 1) false h.tl hrest hle (by omega)]
      have : firstL (dR o) (fR o) o.max (c :: l) rc = (firstL (dR o) (fR o) o.max l (rc + 1)).map (· + 1) := by rw [firstL]; exact if_pos e
      rw [this]
      cases firstL (dR o) (fR o) o.max l (rc + 1) with
      | none => rfl
      | some n =>
        show _ = (⟨p + (catB ((c :: l).take (n + 1))).size, some (st, p + (catB ((c :: l).take (n + 1))).size), s⟩ : Out)
        rw [List.take_succ_cons, catB, ByteArray.size_append, ← Nat.add_assoc]
    · rw [if_neg e, tail_L s st false l (s.size + 1) (p + c.size) h.tl hrest hle (by omega)]
      have : firstL (dR o) (fR o) o.max (c :: l) rc = some (tailL (dR o) (fR o) l + 1) := by rw [firstL]; exact if_neg e
      rw [this]
      show _ = (⟨p + (catB ((c :: l).take (tailL (dR o) (fR o) l + 1))).size, some (st, p + (catB ((c :: l).take (tailL (dR o) (fR o) l + 1))).size), s⟩ : Out)
      rw [List.take_succ_cons, catB, ByteArray.size_append, Nat.add_assoc]
theorem call_L {o : Sp} (eof : Bool) (c : ByteArray) (l : List ByteArray) (h : Sees o (c :: l)) : call o (catB (c :: l)) eof = match firstL (dR o) (fR o) o.max (c :: l) 0 with
      | some n => ⟨(catB ((c :: l).take n)).size, some (0, (catB ((c :: l).take n)).size), catB (c :: l)⟩
      | none => if eof then ⟨(catB (c :: l)).size, some (0, (catB (c :: l)).size), catB (c :: l)⟩ else ⟨0, none, catB (c :: l)⟩ := by
  have h0 := (h c List.mem_cons_self).1.1
  have hs : (catB (c :: l)).size = c.size + (catB l).size := ByteArray.size_append
  unfold call
  rw [show ((catB (c :: l)).size == 0) = false from beq_eq_false_iff_ne.2 (by omega), Bool.and_false, if_neg (by decide)]
  rw [scan_L eof (catB (c :: l)) 0 (c :: l) _ 0 0 true h (by rw [ByteArray.extract_zero_size]) (Nat.zero_le _) (by omega)]
  simp only [Nat.zero_add]
theorem firstL_le (D F : ByteArray → Bool) (mx : Int) : ∀ (l : List ByteArray) (rc : Int) (n : Nat), firstL D F mx l rc = some n → 1 ≤ n ∧ n ≤ l.length
  | [], rc, n, h => by cases h
  | c :: l, rc, n, h => by
    rw [firstL] at h
    split at h
    · cases hr : firstL D F mx l (rc + 1) with
      | none => rw [hr] at h; cases h
      | some m =>
        rw [hr] at h
        have := firstL_le D F mx l (rc + 1) m hr
        have h : some (m + 1) = some n := h
        injection h with h
        rw [List.length_cons]
        omega
    · injection h with h
      have : ∀ l : List ByteArray, tailL D F l ≤ l.length := by
        intro l
        induction l with
        | nil => exact Nat.le_refl _
        | cons c l ih => rw [tailL, List.length_cons]; split <;> omega
      have := this l
      rw [List.length_cons]
      omega
theorem cut_app (a b : ByteArray) : cut (a ++ b) 0 a.size = a ∧ cut (a ++ b) a.size (a ++ b).size = b := by
  unfold cut
  exact ⟨ByteArray.extract_append_eq_left rfl, ByteArray.extract_append_eq_right rfl ByteArray.size_append⟩
theorem cut_take (l : List ByteArray) (n : Nat) : cut (catB l) 0 (catB (l.take n)).size = catB (l.take n) ∧ cut (catB l) (catB (l.take n)).size (catB l).size = catB (l.drop n) := by
  have : catB l = catB (l.take n) ++ catB (l.drop n) := by rw [← catB_append, List.take_append_drop]
  rw [this]
  exact cut_app _ _
theorem run_L {o : Sp} (ph : Nat) (hph : ph ≤ 1) (c : ByteArray) (l : List ByteArray) (h : Sees o (c :: l)) : run (call o) ph (catB (c :: l)) = match firstL (dR o) (fR o) o.max (c :: l) 0 with
      | some n => (some (catB ((c :: l).take n)), 1, catB ((c :: l).drop n))
      | none => (some (catB (c :: l)), 2, ByteArray.empty) := by
  have h0 := (h c List.mem_cons_self).1.1
  have hs : (catB (c :: l)).size = c.size + (catB l).size := ByteArray.size_append
  have hB : run (call o) ph (catB (c :: l)) = goB (call o) (catB (c :: l)) := by
    match ph, hph with
    | 0, _ => rw [run, goA, if_neg (by omega)]
    | 1, _ => rw [run]
  have hf := call_L false c l h
  have ht := call_L true c l h
  have hc := cut_take (c :: l)
  rw [hB, goB, if_neg (by omega)]
  cases hn : firstL (dR o) (fR o) o.max (c :: l) 0 with
  | some n =>
    rw [hn] at hf
    simp only at hf ⊢
    rw [hf]
    simp only
    rw [(hc n).1, (hc n).2]
  | none =>
    rw [hn] at hf ht
    simp only at hf ht ⊢
    rw [if_neg (by decide)] at hf
    rw [if_pos trivial] at ht
    rw [hf]
    simp only
    have e : cut (catB (c :: l)) 0 (catB (c :: l)).size = catB (c :: l) := cut_all _
    rw [e, goC, ht]
    simp only
    rw [e]
    have e2 : cut (catB (c :: l)) (catB (c :: l)).size (catB (c :: l)).size = ByteArray.empty := by
      have := cut_app (catB (c :: l)) ByteArray.empty
      rw [ByteArray.append_empty] at this
      exact this.2
    rw [e2]
theorem run_nil {o : Sp} (ph : Nat) : (run (call o) ph ByteArray.empty).1 = none := by
  have hC : (goC (call o) ByteArray.empty).1 = none := by
    unfold goC
    rw [call_none o ByteArray.empty rfl]
  match ph with
  | 0 => rw [run, goA, if_pos (show ByteArray.empty.size = 0 from rfl)]; exact hC
  | 1 => rw [run, goB, if_pos (show ByteArray.empty.size = 0 from rfl)]; exact hC
  | n + 2 => exact hC
theorem toks_nil {o : Sp} (k ph : Nat) : toks (call o) k ph ByteArray.empty = [] := by
  cases k with
  | zero => rfl
  | succ k =>
    have := run_nil (o := o) ph
    rw [toks]
    split
    · rename_i h; rw [h] at this; cases this
    · rfl
theorem toks_L {o : Sp} : ∀ (k : Nat) (l : List ByteArray) (ph : Nat), ph ≤ 1 → Sees o l → l.length < k → toks (call o) k ph (catB l) = (sentL (dR o) (fR o) o.max k l).map catB
  | 0, l, ph, hph, h, hk => by omega
  | k + 1, [], ph, hph, h, hk => by rw [sentL]; exact toks_nil _ _
  | k + 1, c :: l, ph, hph, h, hk => by
    rw [toks, run_L ph hph c l h, sentL]
    cases hn : firstL (dR o) (fR o) o.max (c :: l) 0 with
    | none =>
      simp only
      rw [toks_nil]
      rfl
    | some n =>
      have hle := firstL_le _ _ _ _ _ _ hn
      simp only
      rw [toks_L k ((c :: l).drop n) 1 (Nat.le_refl _) (fun d hd => h d (List.mem_of_mem_drop hd)) (by rw [List.length_drop, List.length_cons] at *; omega)]
      rfl
/-- The sentences are the text. -/
theorem sentL_flat (D F : ByteArray → Bool) (mx : Int) : ∀ (k : Nat) (l : List ByteArray), l.length < k → (sentL D F mx k l).flatten = l ∧ ∀ m ∈ sentL D F mx k l, m ≠ []
  | 0, l, hk => by omega
  | k + 1, [], hk => ⟨rfl, by simp [sentL]⟩
  | k + 1, c :: l, hk => by
    rw [sentL]
    cases hn : firstL D F mx (c :: l) 0 with
    | none => simp
    | some n =>
      have hle := firstL_le _ _ _ _ _ _ hn
      obtain ⟨h1, h2⟩ := sentL_flat D F mx k ((c :: l).drop n) (by rw [List.length_drop, List.length_cons] at *; omega)
      simp only [List.flatten_cons, h1, List.take_append_drop, true_and]
      intro m hm
      rcases List.mem_cons.1 hm with rfl | hm
      · intro e
        have := congrArg List.length e
        rw [List.length_take, List.length_nil, List.length_cons] at this
        rw [List.length_cons] at hle
        omega
      · exact h2 m hm
theorem cat_flat : ∀ ls : List (List ByteArray), catB (ls.map catB) = catB ls.flatten
  | [] => rfl
  | l :: ls => by rw [List.map_cons, catB, cat_flat ls, List.flatten_cons, catB_append]
end Go.Proofs.YtpjnebmcbeblkaaDoor.Sn
namespace Go.Proofs.YtpjnebmcbeblkaaDoor.Sn
open Go.RowKit Go.Lib Go.Proofs.YtpjnebmcbeblkaaDoorW.PrintWords Go.Proofs.YtpjnebmcbeblkaaDoorW.PrintLast Go.Proofs.YtpjnebmcbeblkaaDoorW.PrintMore Go.Proofs.YtpjnebmcbeblkaaDoor.P Go.Proofs.YtpjnebmcbeblkaaDoor.X
theorem szl0 (s : ByteArray) (n : Int) (hs : n ≤ s.size) (h4 : n ≤ 4) (d : Nat) : ∀ i : Int, 2 ≤ i → i ≤ n → n - i ≤ d → (∀ j : Int, i ≤ j → j < n → 128 ≤ bt s j ∧ bt s j ≤ 191) → Ev (fun k => laws_size.l0 k s n i) n := by
  induction d with
  | zero => intro i h1 h2 h3 h; exact ev1 0 fun k _ => by simp only [laws_size.l0]; rw [if_neg (by omega)]
  | succ d ih =>
    intro i h1 h2 h3 h
    by_cases hi : i < n
    · obtain ⟨K, hK⟩ := ih (i + 1) (by omega) (by omega) (by omega) (fun j a b => h j (by omega) b)
      have hb := h i (by omega) hi
      exact ev1 K fun k hk => by simp only [laws_size.l0]; rw [if_pos hi, if_pos (by omega), if_pos (by omega), if_neg (by omega), if_neg (by omega), wr1 (by omega) (by omega)]; exact hK k hk
    · exact ev1 0 fun k _ => by simp only [laws_size.l0]; rw [if_neg hi]
theorem szj3 (s : ByteArray) (n lo hi : Int) (h2 : 2 ≤ n) (h4 : n ≤ 4) (hs : n ≤ s.size) (hl : lo ≤ bt s 1) (hh : bt s 1 ≤ hi) (h : ∀ j : Int, 2 ≤ j → j < n → 128 ≤ bt s j ∧ bt s j ≤ 191) : Ev (fun k => laws_size.j3 k s n lo hi) n := by
  obtain ⟨K, hK⟩ := szl0 s n hs h4 4 2 (by omega) h2 (by omega) h
  dsimp only at hK
  refine ev1 (K + 1) fun k hk => ?_
  obtain ⟨k, rfl⟩ : ∃ k', k = k' + 1 := ⟨k - 1, by omega⟩
  rw [laws_size.j3, if_neg (by omega), if_neg (by omega), if_pos (by omega), if_neg (by omega), decide_eq_false (by omega), laws_size.j4, if_neg (by decide)]
  exact hK k (by omega)
theorem szj2 (s : ByteArray) (c n : Int) (h2 : 2 ≤ n) (h4 : n ≤ 4) (hs : Shape s c n) : Ev (fun k => laws_size.j2 k s c n 128 191) n := by
  obtain ⟨lo, hi, sh, n0, ns, m1, m2, m3⟩ := hs
  obtain ⟨K, hK⟩ := szj3 s n lo hi h2 h4 ns m1 m2 m3
  dsimp only at hK
  refine ev1 K fun k hk => ?_
  rw [laws_size.j2]
  rcases sh with ⟨rfl, rfl, rfl⟩ | ⟨rfl, rfl, rfl⟩ | ⟨rfl, rfl, rfl⟩ | ⟨rfl, rfl, rfl⟩ | ⟨⟨q1, q2, q3, q4⟩, rfl, rfl⟩
  · rw [if_pos rfl]; exact hK k hk
  · rw [if_neg (by omega), if_pos rfl]; exact hK k hk
  · rw [if_neg (by omega), if_neg (by omega), if_pos rfl]; exact hK k hk
  · rw [if_neg (by omega), if_neg (by omega), if_neg (by omega), if_pos rfl]; exact hK k hk
  · rw [if_neg q1, if_neg q2, if_neg q3, if_neg q4]; exact hK k hk
theorem size_comp (s : ByteArray) (h0 : 0 < s.size) (hv : Valid s) : Ev (fun k => laws_size.f k s) ((dec s).2 : Int) := by
  have e0 : bt s 0 = ((s.get! 0).toNat : Int) := bt_get s 0
  have e1 : bt s 1 = ((s.get! 1).toNat : Int) := bt_get s 1
  have e2 : bt s 2 = ((s.get! 2).toNat : Int) := bt_get s 2
  have e3 : bt s 3 = ((s.get! 3).toNat : Int) := bt_get s 3
  unfold Valid at hv
  rw [dec_N s h0] at hv ⊢
  have l0 := UInt8.toNat_lt (s.get! 0)
  have l1 := UInt8.toNat_lt (s.get! 1)
  have l2 := UInt8.toNat_lt (s.get! 2)
  have l3 := UInt8.toNat_lt (s.get! 3)
  generalize (s.get! 0).toNat = b0 at *
  generalize (s.get! 1).toNat = b1 at *
  generalize (s.get! 2).toNat = b2 at *
  generalize (s.get! 3).toNat = b3 at *
  have fin : ∀ n : Int, 2 ≤ n → n ≤ 4 → Shape s (bt s 0) n → ((194 ≤ bt s 0 ∧ bt s 0 ≤ 223 ∧ n = 2) ∨ (224 ≤ bt s 0 ∧ bt s 0 ≤ 239 ∧ n = 3) ∨ (240 ≤ bt s 0 ∧ bt s 0 ≤ 244 ∧ n = 4)) → Ev (fun k => laws_size.f k s) n := fun n h2 h4 hs hn => by
    obtain ⟨K, hK⟩ := szj2 s (bt s 0) n h2 h4 hs
    dsimp only at hK
    refine ⟨K + 2, fun k hk => ?_⟩
    obtain ⟨k, rfl⟩ : ∃ k', k = k' + 2 := ⟨k - 2, by omega⟩
    dsimp only
    rcases hn with ⟨q1, q2, rfl⟩ | ⟨q1, q2, rfl⟩ | ⟨q1, q2, rfl⟩
    · rw [laws_size.f, if_pos (by omega), if_neg (by omega), if_pos (by omega), decide_eq_true (by omega), laws_size.j0, if_pos rfl]; exact hK _ (by omega)
    · rw [laws_size.f, if_pos (by omega), if_neg (by omega), if_pos (by omega), decide_eq_false (by omega), laws_size.j0, if_neg (by decide), if_pos (by omega), decide_eq_true (by omega), laws_size.j1, if_pos rfl]; exact hK _ (by omega)
    · rw [laws_size.f, if_pos (by omega), if_neg (by omega), if_pos (by omega), decide_eq_false (by omega), laws_size.j0, if_neg (by decide), if_pos (by omega), decide_eq_false (by omega), laws_size.j1, if_neg (by decide), if_pos (by omega), if_pos (by omega)]; exact hK _ (by omega)
  have two : ∀ n : Int, n ≤ 4 → (2 < n → 128 ≤ b2 ∧ b2 ≤ 191) → (3 < n → 128 ≤ b3 ∧ b3 ≤ 191) → ∀ j : Int, 2 ≤ j → j < n → 128 ≤ bt s j ∧ bt s j ≤ 191 := fun n hn g2 g3 j j1 j2 => by
    have : j = 2 ∨ j = 3 := by omega
    rcases this with rfl | rfl
    · rw [e2]; have := g2 (by omega); omega
    · rw [e3]; have := g3 (by omega); omega
  unfold decodeN at hv ⊢
  by_cases c0 : b0 < 128
  · rw [if_pos c0]
    exact ⟨0, fun k _ => by dsimp only; rw [laws_size.f, if_pos (by omega), if_pos (by omega)]; rfl⟩
  · rw [if_neg c0] at hv ⊢
    by_cases c1 : b0 / 32 = 6 ∧ (1 < s.size ∧ b1 / 64 = 2)
    · rw [if_pos c1] at hv ⊢
      by_cases q : b0 % 32 * 64 + b1 % 64 ≥ 128
      · rw [if_pos q]
        exact fin 2 (by omega) (by omega) ⟨128, 191, .inr (.inr (.inr (.inr ⟨by omega, rfl, rfl⟩))), by omega, by omega, by omega, by omega, fun j a b => by omega⟩ (.inl ⟨by omega, by omega, rfl⟩)
      · rw [if_neg q] at hv; exact absurd ⟨rfl, rfl⟩ hv
    · rw [if_neg c1] at hv ⊢
      by_cases c2 : b0 / 16 = 14 ∧ (1 < s.size ∧ b1 / 64 = 2) ∧ (2 < s.size ∧ b2 / 64 = 2)
      · rw [if_pos c2] at hv ⊢
        obtain ⟨k1, k2, k3⟩ := c2
        split at hv
        · rename_i q
          rw [if_pos q]
          refine fin 3 (by omega) (by omega) ?_ (.inr (.inl ⟨by omega, by omega, rfl⟩))
          have t := two 3 (by omega) (fun _ => by omega) (fun h => by omega)
          by_cases d1 : b0 = 224
          · exact ⟨160, 191, .inl ⟨by omega, rfl, rfl⟩, by omega, by omega, by omega, by omega, t⟩
          · by_cases d2 : b0 = 237
            · exact ⟨128, 159, .inr (.inl ⟨by omega, rfl, rfl⟩), by omega, by omega, by omega, by omega, t⟩
            · exact ⟨128, 191, .inr (.inr (.inr (.inr ⟨by omega, rfl, rfl⟩))), by omega, by omega, by omega, by omega, t⟩
        · exact absurd ⟨rfl, rfl⟩ hv
      · rw [if_neg c2] at hv ⊢
        by_cases c3 : b0 / 8 = 30 ∧ (1 < s.size ∧ b1 / 64 = 2) ∧ (2 < s.size ∧ b2 / 64 = 2) ∧ (3 < s.size ∧ b3 / 64 = 2)
        · rw [if_pos c3] at hv ⊢
          obtain ⟨k1, k2, k3, k4⟩ := c3
          split at hv
          · rename_i q
            rw [if_pos q]
            refine fin 4 (by omega) (by omega) ?_ (.inr (.inr ⟨by omega, by omega, rfl⟩))
            have t := two 4 (by omega) (fun _ => by omega) (fun h => by omega)
            by_cases d1 : b0 = 240
            · exact ⟨144, 191, .inr (.inr (.inl ⟨by omega, rfl, rfl⟩)), by omega, by omega, by omega, by omega, t⟩
            · by_cases d2 : b0 = 244
              · exact ⟨128, 143, .inr (.inr (.inr (.inl ⟨by omega, rfl, rfl⟩))), by omega, by omega, by omega, by omega, t⟩
              · exact ⟨128, 191, .inr (.inr (.inr (.inr ⟨by omega, rfl, rfl⟩))), by omega, by omega, by omega, by omega, t⟩
          · exact absurd ⟨rfl, rfl⟩ hv
        · rw [if_neg c3] at hv; exact absurd ⟨rfl, rfl⟩ hv
theorem signs_cat : ∀ (m acc : List ByteArray), (∀ c ∈ m, Piece c) → acc.length + m.length ≤ 2147483647 → Ev (fun k => laws_signs.l0 k (catB m) acc) (acc ++ m, true)
  | [], acc, h, hl => ev1 0 fun k _ => by rw [laws_signs.l0, if_pos (by rw [catB]; exact empty_list), List.append_nil]
  | c :: m, acc, h, hl => by
    obtain ⟨h0, hv, hz⟩ := h c List.mem_cons_self
    have hs : (c ++ catB m).size = c.size + (catB m).size := ByteArray.size_append
    have hd : dec (c ++ catB m) = dec c := dec_more h0 hv _
    rw [List.length_cons] at hl
    obtain ⟨K, hK⟩ := size_comp (c ++ catB m) (by omega) (by unfold Valid at hv ⊢; rw [hd]; exact hv)
    obtain ⟨K2, hK2⟩ := signs_cat m (acc ++ [c]) (fun d hd => h d (List.mem_cons_of_mem _ hd)) (by rw [List.length_append, List.length_singleton]; omega)
    dsimp only at hK hK2
    rw [hd, hz] at hK
    refine ev1 (max K K2) fun k hk => ?_
    rw [laws_signs.l0, if_neg (by rw [catB]; intro e; have := toList_len (c ++ catB m); rw [e] at this; simp at this; omega), catB, hK k (by omega)]
    simp only [Option.bind_some]
    rw [if_neg (by omega), if_pos (by omega), if_pos (by omega), if_pos (by omega), Int.toNat_natCast, ByteArray.extract_append_eq_left rfl, ByteArray.extract_append_eq_right rfl hs, hK2 k (by omega), List.append_assoc]
    rfl
theorem signs_catB (m : List ByteArray) (h : ∀ c ∈ m, Piece c) (hl : m.length ≤ 2147483647) : Ev (fun k => laws_signs.f k (catB m)) (m, true) := by
  obtain ⟨K, hK⟩ := signs_cat m [] h (by simp; omega)
  exact ⟨K, fun k hk => by dsimp only at hK ⊢; rw [laws_signs.f, hK k hk]; rfl⟩
/-- A sign is among others. -/
def hasB (la : List ByteArray) (c : ByteArray) : Bool := la.any fun e => decide (e.toList = c.toList)
theorem has_l0v (c : ByteArray) (la : List ByteArray) (hl : la.length ≤ 9223372036854775806) (d : Nat) : ∀ i : Nat, i + d = la.length → Ev (fun k => laws_has.l0 k c la (la.length : Int) (i : Int)) (hasB (la.drop i) c) := by
  induction d with
  | zero => intro i hi; rw [List.drop_of_length_le (by omega)]; exact ev1 0 fun k _ => by rw [laws_has.l0, if_neg (by omega)]; rfl
  | succ d ih =>
    intro i hi
    obtain ⟨K, hK⟩ := ih (i + 1) (by omega)
    dsimp only at hK
    have hr := rdOf_nat ByteArray.empty la i (by omega)
    rw [List.drop_eq_getElem_cons (by omega)]
    refine ev1 K fun k hk => ?_
    rw [laws_has.l0, if_pos (by omega), if_pos (by omega), if_pos (by omega), hr]
    unfold hasB
    rw [List.any_cons]
    by_cases e : la[i].toList = c.toList
    · rw [if_pos e, decide_eq_true e]; rfl
    · rw [if_neg e, decide_eq_false e, wr1 (by omega) (by omega), Bool.false_or]; exact hK k hk
theorem has_val {a : ByteArray} {la : List ByteArray} (ha : Ev (fun k => laws_signs.f k a) (la, true)) (hl : la.length ≤ 9223372036854775806) (c : ByteArray) : Ev (fun k => laws_has.f k a c) (hasB la c) := by
  obtain ⟨K, hK⟩ := has_l0v c la hl la.length 0 (by omega)
  obtain ⟨K2, hK2⟩ := ha
  dsimp only at hK hK2
  exact ⟨max K K2, fun k hk => by dsimp only; rw [laws_has.f, hK2 k (by omega)]; exact hK k (by omega)⟩
theorem runesL_eq (s : ByteArray) : ∀ (l : List ByteArray) (k p : Nat), (∀ c ∈ l, Piece c) → s.extract p s.size = catB l → p ≤ s.size → l.length ≤ k → runesL s k p = l.map fun e => ((dec e).1 : Int)
  | [], k, p, h, he, hp, hk => by
    have hz : (s.extract p s.size).size = s.size - p := by rw [ByteArray.size_extract]; omega
    rw [he] at hz
    have : (catB []).size = 0 := rfl
    cases k with
    | zero => rfl
    | succ k => rw [runesL, if_neg (by omega)]; rfl
  | c :: l, k, p, h, he, hp, hk => by
    obtain ⟨hlt, hsg, hsz, hrest, hle⟩ := at_sg (h c List.mem_cons_self) he hp
    cases k with
    | zero => rw [List.length_cons] at hk; omega
    | succ k =>
      rw [List.length_cons] at hk
      rw [runesL, if_pos hlt, hsz, hsg, runesL_eq s l k (p + c.size) (fun d hd => h d (List.mem_cons_of_mem _ hd)) hrest hle (by omega), List.map_cons]
theorem runes_eq {a : ByteArray} {la : List ByteArray} (ha : Chk la a) : runes a = la.map fun e => ((dec e).1 : Int) := by
  obtain ⟨e, hp⟩ := chk_cat la a ha
  exact runesL_eq a la a.size 0 hp (by rw [ByteArray.extract_zero_size]; exact e) (Nat.zero_le _) (chk_len la a ha)
theorem piece_eq {c e : ByteArray} (hc : Piece c) (he : Piece e) : (dec e).1 = (dec c).1 ↔ e.toList = c.toList := by
  constructor
  · intro h
    have := sign_inj he.1 hc.1 he.2.1 hc.2.1 h
    rwa [he.2.2, hc.2.2, ByteArray.extract_zero_size, ByteArray.extract_zero_size] at this
  · intro h
    rw [ByteArray.toList_eq, ByteArray.toList_eq] at h
    have : e = c := ByteArray.ext (Array.toList_inj.1 h)
    rw [this]
theorem any_has {a : ByteArray} {la : List ByteArray} (ha : Chk la a) {c : ByteArray} (hc : Piece c) : ((runes a).any fun r => r == ((dec c).1 : Int)) = hasB la c := by
  rw [runes_eq ha, List.any_map]
  unfold hasB
  obtain ⟨_, hp⟩ := chk_cat la a ha
  rw [Bool.eq_iff_iff, List.any_eq_true, List.any_eq_true]
  constructor
  · rintro ⟨e, he, h⟩
    exact ⟨e, he, by
      have h : ((dec e).1 : Int) = ((dec c).1 : Int) := by simpa using h
      exact decide_eq_true ((piece_eq hc (hp e he)).1 (by omega))⟩
  · rintro ⟨e, he, h⟩
    refine ⟨e, he, ?_⟩
    have := (piece_eq hc (hp e he)).2 (of_decide_eq_true h)
    simp [this]
theorem joined_l0 (xs : List ByteArray) (n : Nat) (hn : n ≤ 2147483647) (hz : (catB xs).size ≤ n) (hl : xs.length ≤ n) (d : Nat) : ∀ i : Nat, i + d = xs.length → Ev (fun k => laws_joined.l0 k (catB (xs.take i)) xs (xs.length : Int) (i : Int)) (catB xs) := by
  induction d with
  | zero => intro i hi; rw [List.take_of_length_le (by omega)]; exact ev1 0 fun k _ => by rw [laws_joined.l0, if_neg (by omega)]
  | succ d ih =>
    intro i hi
    obtain ⟨K, hK⟩ := ih (i + 1) (by omega)
    dsimp only at hK
    have hr := rdOf_nat ByteArray.empty xs i (by omega)
    have ht : catB (xs.take (i + 1)) = catB (xs.take i) ++ xs[i] := by
      rw [List.take_succ_eq_append_getElem (by omega), catB_append]
      show _ ++ (xs[i] ++ ByteArray.empty) = _
      rw [ByteArray.append_empty]
    have hs : (catB xs).size = (catB (xs.take (i + 1))).size + (catB (xs.drop (i + 1))).size := by rw [← ByteArray.size_append, ← catB_append, List.take_append_drop]
    rw [ht, ByteArray.size_append] at hs
    rw [ht] at hK
    refine ev1 K fun k hk => ?_
    rw [laws_joined.l0, if_pos (by omega), if_pos (by omega), if_pos (by omega), hr, if_pos (by omega), wr1 (by omega) (by omega)]
    exact hK k hk
theorem joined_val (xs : List ByteArray) (hz : (catB xs).size ≤ 2147483647) (hl : xs.length ≤ 2147483647) : Ev (fun k => laws_joined.f k xs) (catB xs) := by
  obtain ⟨K, hK⟩ := joined_l0 xs 2147483647 (Nat.le_refl _) hz hl xs.length 0 (by omega)
  exact ⟨K, fun k hk => by dsimp only at hK ⊢; rw [laws_joined.f]; exact hK k hk⟩
end Go.Proofs.YtpjnebmcbeblkaaDoor.Sn
namespace Go.Proofs.YtpjnebmcbeblkaaDoor.Sn
open Go.RowKit Go.Lib Go.Proofs.YtpjnebmcbeblkaaDoorW.PrintWords Go.Proofs.YtpjnebmcbeblkaaDoorW.PrintLast Go.Proofs.YtpjnebmcbeblkaaDoorW.PrintMore Go.Proofs.YtpjnebmcbeblkaaDoor.P Go.Proofs.YtpjnebmcbeblkaaDoor.X
theorem tailL_all (D F : ByteArray → Bool) : ∀ (l : List ByteArray) (j : Nat) (hj : j < l.length), j < tailL D F l → (D l[j] || F l[j]) = true
  | [], j, hj, h => by cases hj
  | c :: l, j, hj, h => by
    rw [tailL] at h
    by_cases e : (D c || F c) = true
    · rw [if_pos e] at h
      cases j with
      | zero => exact e
      | succ j => exact tailL_all D F l j (by rw [List.length_cons] at hj; omega) (by omega)
    · rw [if_neg e] at h; omega
/-- Ahead of its end a sentence has few signs. -/
theorem firstL_few (D F : ByteArray → Bool) (mx : Int) : ∀ (l : List ByteArray) (rc : Int) (n : Nat), firstL D F mx l rc = some n → ∃ q, 1 ≤ q ∧ q ≤ n ∧ ((q : Int) + rc ≤ rc + 1 ∨ (q : Int) + rc ≤ mx) ∧ (∀ (j : Nat) (hj : j < l.length), q ≤ j → j < n → (D l[j] || F l[j]) = true) ∧ ((∃ h : q - 1 < l.length, D l[q - 1] = true) ∨ (n : Int) + rc ≥ mx)
  | [], rc, n, h => by cases h
  | c :: l, rc, n, h => by
    rw [firstL] at h
    by_cases e : (!(D c) && decide (rc + 1 < mx)) = true
    · rw [if_pos e] at h
      have e2 : rc + 1 < mx := by simp at e; exact e.2
      cases hr : firstL D F mx l (rc + 1) with
      | none => rw [hr] at h; cases h
      | some m =>
        rw [hr] at h
        have h : some (m + 1) = some n := h
        injection h with h
        obtain ⟨q, q0, q1, q2, q3, q4⟩ := firstL_few D F mx l (rc + 1) m hr
        refine ⟨q + 1, by omega, by omega, by omega, ?_, ?_⟩
        · intro j hj a b
          cases j with
          | zero => omega
          | succ j => exact q3 j (by rw [List.length_cons] at hj; omega) (by omega) (by omega)
        · rcases q4 with ⟨g1, g2⟩ | g
          · refine .inl ⟨by rw [List.length_cons]; omega, ?_⟩
            have : (c :: l)[q + 1 - 1]'(by rw [List.length_cons]; omega) = l[q - 1] := by
              obtain ⟨p, rfl⟩ : ∃ p, q = p + 1 := ⟨q - 1, by omega⟩
              rfl
            rw [this]; exact g2
          · exact .inr (by omega)
    · rw [if_neg e] at h
      injection h with h
      refine ⟨1, Nat.le_refl _, by omega, by omega, ?_, ?_⟩
      · intro j hj a b
        cases j with
        | zero => omega
        | succ j => exact tailL_all D F l j (by rw [List.length_cons] at hj; omega) (by omega)
      · by_cases d : D c = true
        · exact .inl ⟨by rw [List.length_cons]; omega, d⟩
        · refine .inr ?_
          have : ¬ rc + 1 < mx := fun g => e (by simp [d, g])
          omega
theorem firstL_none (D F : ByteArray → Bool) (mx : Int) : ∀ (l : List ByteArray) (rc : Int), firstL D F mx l rc = none → l = [] ∨ (l.length : Int) + rc < mx
  | [], rc, h => .inl rfl
  | c :: l, rc, h => by
    rw [firstL] at h
    by_cases e : (!(D c) && decide (rc + 1 < mx)) = true
    · rw [if_pos e] at h
      have e2 : rc + 1 < mx := by simp at e; exact e.2
      cases hr : firstL D F mx l (rc + 1) with
      | some m => rw [hr] at h; cases h
      | none =>
        rw [List.length_cons]
        rcases firstL_none D F mx l (rc + 1) hr with rfl | g
        · exact .inr (by simp; omega)
        · exact .inr (by omega)
    · rw [if_neg e] at h; cases h
/-- Each sentence: few signs ahead of its end. -/
theorem sentL_few (D F : ByteArray → Bool) (mx : Int) (hm : 1 ≤ mx) : ∀ (k : Nat) (l : List ByteArray), ∀ m ∈ sentL D F mx k l, ∃ q : Nat, (q : Int) ≤ mx ∧ ∀ (j : Nat) (hj : j < m.length), q ≤ j → (D m[j] || F m[j]) = true
  | 0, l, m, hh => by cases hh
  | k + 1, [], m, hh => by cases hh
  | k + 1, c :: l, m, hh => by
    rw [sentL] at hh
    cases hn : firstL D F mx (c :: l) 0 with
    | none =>
      rw [hn] at hh
      simp only [List.mem_singleton] at hh
      subst hh
      rcases firstL_none D F mx _ _ hn with e | e
      · cases e
      · exact ⟨(c :: l).length, by omega, fun j hj a => by omega⟩
    | some n =>
      rw [hn] at hh
      rcases List.mem_cons.1 hh with rfl | hh
      · obtain ⟨q, q0, q1, q2, q3, q4⟩ := firstL_few D F mx _ _ _ hn
        refine ⟨q, by omega, fun j hj a => ?_⟩
        rw [List.getElem_take]
        rw [List.length_take] at hj
        exact q3 j (by omega) a (by omega)
      · exact sentL_few D F mx hm k _ m hh
/-- Each sentence but the last: it has as many signs as there may be, or ends with signs that end it. -/
theorem sentL_end (D F : ByteArray → Bool) (mx : Int) : ∀ (k : Nat) (l : List ByteArray) (i : Nat) (hi : i < (sentL D F mx k l).length), i + 1 < (sentL D F mx k l).length → (((sentL D F mx k l)[i].length : Int) ≥ mx) ∨ ∃ (q : Nat) (hq : q < (sentL D F mx k l)[i].length), D (sentL D F mx k l)[i][q] = true ∧ ∀ (j : Nat) (hj : j < (sentL D F mx k l)[i].length), q ≤ j → (D (sentL D F mx k l)[i][j] || F (sentL D F mx k l)[i][j]) = true
  | 0, l, i, hi, h => by cases hi
  | k + 1, [], i, hi, h => by cases hi
  | k + 1, c :: l, i, hi, h => by
    cases hn : firstL D F mx (c :: l) 0 with
    | none =>
      exfalso
      rw [sentL, hn] at h
      simp at h
    | some n =>
      have hs : sentL D F mx (k + 1) (c :: l) = (c :: l).take n :: sentL D F mx k ((c :: l).drop n) := by rw [sentL, hn]
      have hle := firstL_le _ _ _ _ _ _ hn
      generalize sentL D F mx (k + 1) (c :: l) = S at *
      subst hs
      cases i with
      | zero =>
        obtain ⟨q, q0, q1, q2, q3, q4⟩ := firstL_few D F mx _ _ _ hn
        have hz : ((c :: l).take n).length = n := by rw [List.length_take]; omega
        simp only [List.getElem_cons_zero]
        rcases q4 with ⟨g1, g2⟩ | g
        · refine .inr ⟨q - 1, by omega, by rw [List.getElem_take]; exact g2, fun j hj a => ?_⟩
          rw [List.getElem_take]
          by_cases e : j = q - 1
          · subst e; rw [g2]; rfl
          · exact q3 j (by omega) (by omega) (by omega)
        · exact .inl (by omega)
      | succ i =>
        simp only [List.getElem_cons_succ]
        exact sentL_end D F mx k _ i _ (by simp only [List.length_cons] at h; omega)
theorem sameTexts_l0 (xs : List ByteArray) (hl : xs.length ≤ 2147483647) (d : Nat) : ∀ i : Nat, i + d = xs.length → Ev (fun k => laws_sameTexts.l0 k xs xs (xs.length : Int) (i : Int)) true := by
  induction d with
  | zero => intro i hi; exact ev1 0 fun k _ => by rw [laws_sameTexts.l0, if_neg (by omega)]
  | succ d ih =>
    intro i hi
    obtain ⟨K, hK⟩ := ih (i + 1) (by omega)
    dsimp only at hK
    exact ev1 K fun k hk => by rw [laws_sameTexts.l0, if_pos (by omega), if_pos (by omega), if_pos (by omega), if_pos (by omega), if_pos rfl, wr1 (by omega) (by omega)]; exact hK k hk
theorem sameTexts_self (xs : List ByteArray) (hl : xs.length ≤ 2147483647) : Ev (fun k => laws_sameTexts.f k xs xs) true := by
  obtain ⟨K, hK⟩ := sameTexts_l0 xs hl xs.length 0 (by omega)
  exact ⟨K, fun k hk => by dsimp only at hK ⊢; rw [laws_sameTexts.f, if_pos rfl]; exact hK k hk⟩
theorem sentences_val (x0 a f : ByteArray) (sk ln : Bool) (mx : Int) (h0 : x0.size ≤ 1000) (ha : a.size ≤ 1000) (hf : f.size ≤ 1000) : impl_Sentences.f x0 a f sk ln mx [] = some (toks (call (spOf a f sk ln mx)) (x0.size + 1) 0 x0, true) := by
  unfold impl_Sentences.f
  rw [if_pos ⟨rfl, h0, ha, hf⟩]
theorem canary_toks : toks (call (spOf (⟨#[46]⟩ : ByteArray) (⟨#[]⟩ : ByteArray) false false 10)) 4 0 (⟨#[97, 46, 98]⟩ : ByteArray) = [(⟨#[97, 46]⟩ : ByteArray), (⟨#[98]⟩ : ByteArray)] := by decide +kernel
theorem splits_val : Ev (fun k => laws_splits.f k) true := by
  obtain ⟨K, hK⟩ := sameTexts_self [(⟨#[97, 46]⟩ : ByteArray), (⟨#[98]⟩ : ByteArray)] (by decide)
  dsimp only at hK
  refine ⟨K, fun k hk => ?_⟩
  dsimp only
  have hc : toks (call (spOf (⟨#[46]⟩ : ByteArray) (⟨#[]⟩ : ByteArray) false false 10)) ((⟨#[97, 46, 98]⟩ : ByteArray).size + 1) 0 (⟨#[97, 46, 98]⟩ : ByteArray) = [(⟨#[97, 46]⟩ : ByteArray), (⟨#[98]⟩ : ByteArray)] := canary_toks
  rw [laws_splits.f, sentences_val _ _ _ _ _ _ (by decide) (by decide) (by decide), hc]
  simp only [Option.bind_some]
  rw [if_pos trivial, hK k hk]
  rfl
end Go.Proofs.YtpjnebmcbeblkaaDoor.Sn
namespace Go.Proofs.YtpjnebmcbeblkaaDoor.Sn
open Go.RowKit Go.Lib Go.Proofs.YtpjnebmcbeblkaaDoorW.PrintWords Go.Proofs.YtpjnebmcbeblkaaDoorW.PrintLast Go.Proofs.YtpjnebmcbeblkaaDoorW.PrintMore Go.Proofs.YtpjnebmcbeblkaaDoor.P Go.Proofs.YtpjnebmcbeblkaaDoor.X
theorem wrM {i : Int} (h0 : 1 ≤ i) (h : i ≤ 9223372036854775806) : wrap64 (i - 1) = i - 1 := by
  unfold wrap64
  omega
theorem calm_val (s a f : ByteArray) (sk ln : Bool) (mx : Int) (hs : s.size ≤ 2147483647) (ha : a.size ≤ 2147483647) (hf : f.size ≤ 2147483647) :
    ∃ c, Ev (fun k => laws_calm.f k s a f sk ln mx) c ∧ (c = true → 1 ≤ mx ∧ (Clean1 300 s ∧ SignsOk s) ∧ (Clean1 40 a ∧ SignsOk a) ∧ (Clean1 40 f ∧ SignsOk f)) := by
  obtain ⟨c1, ⟨K1, h1⟩, t1⟩ := clean_ev 300 [s] ⟨by simp, fun x hx => by simp at hx; subst hx; exact hs⟩
  obtain ⟨c2, ⟨K2, h2⟩, t2⟩ := clean_ev 40 [a, f] ⟨by simp, fun x hx => by simp at hx; rcases hx with rfl | rfl; exact ha; exact hf⟩
  dsimp only at h1 h2
  cases c1 with
  | false => exact ⟨false, ⟨K1, fun k hk => by simp only [laws_calm.f]; rw [h1 k hk]; rfl⟩, fun h => by cases h⟩
  | true =>
    cases c2 with
    | false => exact ⟨false, ⟨max K1 K2, fun k hk => by simp only [laws_calm.f]; rw [h1 k (by omega), h2 k (by omega)]; rfl⟩, fun h => by cases h⟩
    | true =>
      have q1 := t1 rfl s (by simp)
      have q2 := t2 rfl a (by simp)
      have q3 := t2 rfl f (by simp)
      by_cases hm : mx ≥ 1
      · exact ⟨decide (mx ≤ 1000), ⟨max K1 K2, fun k hk => by simp only [laws_calm.f]; rw [h1 k (by omega), h2 k (by omega)]; simp only [Option.bind_some]; rw [if_pos trivial, if_pos trivial, if_pos hm]⟩, fun _ => ⟨hm, q1, q2, q3⟩⟩
      · exact ⟨false, ⟨max K1 K2, fun k hk => by simp only [laws_calm.f]; rw [h1 k (by omega), h2 k (by omega)]; simp only [Option.bind_some]; rw [if_pos trivial, if_pos trivial, if_neg hm]⟩, fun h => by cases h⟩
/-- A calm text by its signs, where nothing is left out. -/
theorem toks_calm {s a f : ByteArray} {l la lf : List ByteArray} (hs : Chk l s) (ha : Chk la a) (hf : Chk lf f) (mx : Int) :
    toks (call (spOf a f false false mx)) (s.size + 1) 0 s = (sentL (dR (spOf a f false false mx)) (fR (spOf a f false false mx)) mx (s.size + 1) l).map catB := by
  obtain ⟨e, hp⟩ := chk_cat l s hs
  have hn := chk_len l s hs
  have h : Sees (spOf a f false false mx) l := fun c hc => ⟨hp c hc, space_off rfl _, rfl⟩
  have := toks_L (o := spOf a f false false mx) (s.size + 1) l 0 (by omega) h (by omega)
  rw [← e] at this
  exact this
theorem sentL_mem (D F : ByteArray → Bool) (mx : Int) {k : Nat} {l : List ByteArray} (hk : l.length < k) {m : List ByteArray} (hm : m ∈ sentL D F mx k l) {c : ByteArray} (hc : c ∈ m) : c ∈ l := by
  rw [← (sentL_flat D F mx k l hk).1]
  exact List.mem_flatten.2 ⟨m, hm, hc⟩
theorem sentL_len (D F : ByteArray → Bool) (mx : Int) {k : Nat} {l : List ByteArray} (hk : l.length < k) : (sentL D F mx k l).length ≤ l.length ∧ ∀ m ∈ sentL D F mx k l, m.length ≤ l.length := by
  obtain ⟨h1, h2⟩ := sentL_flat D F mx k l hk
  generalize sentL D F mx k l = S at *
  rw [← h1]
  clear h1 hk
  induction S with
  | nil => simp
  | cons m S ih =>
    obtain ⟨i1, i2⟩ := ih fun m hm => h2 m (List.mem_cons_of_mem _ hm)
    have : m ≠ [] := h2 m List.mem_cons_self
    have : 0 < m.length := List.length_pos_iff.2 this
    rw [List.flatten_cons, List.length_append, List.length_cons]
    refine ⟨by omega, fun m' hm' => ?_⟩
    rcases List.mem_cons.1 hm' with rfl | hm'
    · omega
    · have := i2 m' hm'; omega
theorem dR_has {a f : ByteArray} {la : List ByteArray} (ha : Chk la a) (sk ln : Bool) (mx : Int) {c : ByteArray} (hc : Piece c) : dR (spOf a f sk ln mx) c = hasB la c := any_has ha hc
theorem fR_has {a f : ByteArray} {lf : List ByteArray} (hf : Chk lf f) (sk ln : Bool) (mx : Int) {c : ByteArray} (hc : Piece c) : fR (spOf a f sk ln mx) c = hasB lf c := any_has hf hc
theorem catB_ne {m : List ByteArray} (h : m ≠ []) (hp : ∀ c ∈ m, Piece c) : (catB m).toList ≠ [] := by
  cases m with
  | nil => exact absurd rfl h
  | cons c m =>
    have := (hp c List.mem_cons_self).1
    have hs : (c ++ catB m).size = c.size + (catB m).size := ByteArray.size_append
    intro e
    have := toList_len (catB (c :: m))
    rw [e, catB] at this
    simp at this
    omega
end Go.Proofs.YtpjnebmcbeblkaaDoor.Sn
