/- Plain facts: whether texts are UTF-8, without a byte 0 and short is told after some rounds. -/
import Derived.Test.YtpjnebmcbeblkaaDoorXEv
import Derived.Test.YtpjnebmcbeblkaaDoorP16
set_option linter.unusedVariables false
namespace Go.Proofs.YtpjnebmcbeblkaaDoor.X
open Go.RowKit Go.Proofs.YtpjnebmcbeblkaaDoorW.PrintWords Go.Proofs.YtpjnebmcbeblkaaDoorW.PrintLast Go.Proofs.YtpjnebmcbeblkaaDoorW.PrintMore Go.Proofs.YtpjnebmcbeblkaaDoor.P

def Fit4 (xs : List ByteArray) : Prop := xs.length ≤ 2147483647 ∧ ∀ s ∈ xs, s.size ≤ 2147483647
/-- What the size of a first character may be. -/
def SizeOk (s : ByteArray) (n : Int) : Prop := 0 ≤ n ∧ n ≤ s.size
theorem size_l0 (s : ByteArray) (n : Int) (hs : n ≤ s.size) (h4 : n ≤ 4) (h0 : 0 ≤ n) (d : Nat) : ∀ i : Int, 2 ≤ i → n - i ≤ d → ∃ r, Ev (fun k => laws_size.l0 k s n i) r ∧ SizeOk s r := by
  induction d with
  | zero => intro i h1 h2; exact ⟨n, ev1 0 fun k _ => by simp only [laws_size.l0]; rw [if_neg (by omega)], h0, hs⟩
  | succ d ih =>
    intro i h1 h2
    by_cases hi : i < n
    · obtain ⟨r, ⟨K, hK⟩, hr⟩ := ih (i + 1) (by omega) (by omega)
      dsimp only at hK
      by_cases c1 : bt s i < 128
      · exact ⟨0, ev1 0 fun k _ => by simp only [laws_size.l0]; rw [if_pos hi, if_pos (by omega), if_pos (by omega), if_pos c1], by unfold SizeOk; omega⟩
      · by_cases c2 : bt s i > 191
        · exact ⟨0, ev1 0 fun k _ => by simp only [laws_size.l0]; rw [if_pos hi, if_pos (by omega), if_pos (by omega), if_neg c1, if_pos c2], by unfold SizeOk; omega⟩
        · exact ⟨r, ev1 K fun k hk => by simp only [laws_size.l0]; rw [if_pos hi, if_pos (by omega), if_pos (by omega), if_neg c1, if_neg c2, wr1 (by omega) (by omega)]; exact hK k hk, hr⟩
    · exact ⟨n, ev1 0 fun k _ => by simp only [laws_size.l0]; rw [if_neg hi], h0, hs⟩
theorem size_j4 (s : ByteArray) (n : Int) (b : Bool) (hs : b = false → n ≤ s.size) (h4 : n ≤ 4) (h0 : 0 ≤ n) : ∃ r, Ev (fun k => laws_size.j4 k s n b) r ∧ SizeOk s r := by
  cases b with
  | true => exact ⟨0, ev1 0 fun k _ => by simp only [laws_size.j4]; rw [if_pos trivial], by unfold SizeOk; omega⟩
  | false =>
    obtain ⟨r, ⟨K, hK⟩, hr⟩ := size_l0 s n (hs rfl) h4 h0 n.toNat 2 (by omega) (by omega)
    exact ⟨r, ev1 K fun k hk => by simp only [laws_size.j4]; rw [if_neg (by simp)]; exact hK k hk, hr⟩
theorem size_j3 (s : ByteArray) (n lo hi : Int) (h4 : n ≤ 4) (h2 : n = 0 ∨ 2 ≤ n) : ∃ r, Ev (fun k => laws_size.j3 k s n lo hi) r ∧ SizeOk s r := by
  have hT := fun b hb => size_j4 s n b hb h4 (by omega)
  by_cases c0 : n = 0
  · obtain ⟨r, ⟨K, hK⟩, hr⟩ := hT true (by simp)
    exact ⟨r, ev1 K fun k hk => by simp only [laws_size.j3]; rw [if_pos c0]; exact hK k hk, hr⟩
  · by_cases c1 : (s.size : Int) < n
    · obtain ⟨r, ⟨K, hK⟩, hr⟩ := hT true (by simp)
      exact ⟨r, ev1 K fun k hk => by simp only [laws_size.j3]; rw [if_neg c0, if_pos c1]; exact hK k hk, hr⟩
    · by_cases c2 : bt s 1 < lo
      · obtain ⟨r, ⟨K, hK⟩, hr⟩ := hT true (by simp)
        exact ⟨r, ev1 K fun k hk => by simp only [laws_size.j3]; rw [if_neg c0, if_neg c1, if_pos (by omega), if_pos c2]; exact hK k hk, hr⟩
      · obtain ⟨r, ⟨K, hK⟩, hr⟩ := hT (decide (bt s 1 > hi)) (fun _ => by omega)
        exact ⟨r, ev1 K fun k hk => by simp only [laws_size.j3]; rw [if_neg c0, if_neg c1, if_pos (by omega), if_neg c2]; exact hK k hk, hr⟩
theorem size_j2 (s : ByteArray) (c n lo hi : Int) (h4 : n ≤ 4) (h2 : n = 0 ∨ 2 ≤ n) : ∃ r, Ev (fun k => laws_size.j2 k s c n lo hi) r ∧ SizeOk s r := by
  have hT := fun lo hi => size_j3 s n lo hi h4 h2
  by_cases c1 : c = 224
  · obtain ⟨r, ⟨K, hK⟩, hr⟩ := hT 160 hi
    exact ⟨r, ev1 K fun k hk => by simp only [laws_size.j2]; rw [if_pos c1]; exact hK k hk, hr⟩
  · by_cases c2 : c = 237
    · obtain ⟨r, ⟨K, hK⟩, hr⟩ := hT lo 159
      exact ⟨r, ev1 K fun k hk => by simp only [laws_size.j2]; rw [if_neg c1, if_pos c2]; exact hK k hk, hr⟩
    · by_cases c3 : c = 240
      · obtain ⟨r, ⟨K, hK⟩, hr⟩ := hT 144 hi
        exact ⟨r, ev1 K fun k hk => by simp only [laws_size.j2]; rw [if_neg c1, if_neg c2, if_pos c3]; exact hK k hk, hr⟩
      · by_cases c4 : c = 244
        · obtain ⟨r, ⟨K, hK⟩, hr⟩ := hT lo 143
          exact ⟨r, ev1 K fun k hk => by simp only [laws_size.j2]; rw [if_neg c1, if_neg c2, if_neg c3, if_pos c4]; exact hK k hk, hr⟩
        · obtain ⟨r, ⟨K, hK⟩, hr⟩ := hT lo hi
          exact ⟨r, ev1 K fun k hk => by simp only [laws_size.j2]; rw [if_neg c1, if_neg c2, if_neg c3, if_neg c4]; exact hK k hk, hr⟩
theorem size_j1 (s : ByteArray) (c n lo hi : Int) (b : Bool) (hn : n = 0) : ∃ r, Ev (fun k => laws_size.j1 k s c n lo hi b) r ∧ SizeOk s r := by
  cases b with
  | true =>
    obtain ⟨r, ⟨K, hK⟩, hr⟩ := size_j2 s c 3 lo hi (by omega) (by omega)
    exact ⟨r, ev1 K fun k hk => by simp only [laws_size.j1]; rw [if_pos trivial]; exact hK k hk, hr⟩
  | false =>
    by_cases c1 : c ≥ 240
    · by_cases c2 : c ≤ 244
      · obtain ⟨r, ⟨K, hK⟩, hr⟩ := size_j2 s c 4 lo hi (by omega) (by omega)
        exact ⟨r, ev1 K fun k hk => by simp only [laws_size.j1]; rw [if_neg (by simp), if_pos c1, if_pos c2]; exact hK k hk, hr⟩
      · obtain ⟨r, ⟨K, hK⟩, hr⟩ := size_j2 s c n lo hi (by omega) (by omega)
        exact ⟨r, ev1 K fun k hk => by simp only [laws_size.j1]; rw [if_neg (by simp), if_pos c1, if_neg c2]; exact hK k hk, hr⟩
    · obtain ⟨r, ⟨K, hK⟩, hr⟩ := size_j2 s c n lo hi (by omega) (by omega)
      exact ⟨r, ev1 K fun k hk => by simp only [laws_size.j1]; rw [if_neg (by simp), if_neg c1]; exact hK k hk, hr⟩
theorem size_j0 (s : ByteArray) (c lo hi : Int) (b : Bool) : ∃ r, Ev (fun k => laws_size.j0 k s c 0 lo hi b) r ∧ SizeOk s r := by
  cases b with
  | true =>
    obtain ⟨r, ⟨K, hK⟩, hr⟩ := size_j2 s c 2 lo hi (by omega) (by omega)
    exact ⟨r, ev1 K fun k hk => by simp only [laws_size.j0]; rw [if_pos trivial]; exact hK k hk, hr⟩
  | false =>
    by_cases c1 : c ≥ 224
    · obtain ⟨r, ⟨K, hK⟩, hr⟩ := size_j1 s c 0 lo hi (decide (c ≤ 239)) rfl
      exact ⟨r, ev1 K fun k hk => by simp only [laws_size.j0]; rw [if_neg (by simp), if_pos c1]; exact hK k hk, hr⟩
    · obtain ⟨r, ⟨K, hK⟩, hr⟩ := size_j1 s c 0 lo hi false rfl
      exact ⟨r, ev1 K fun k hk => by simp only [laws_size.j0]; rw [if_neg (by simp), if_neg c1]; exact hK k hk, hr⟩
theorem size_ev (s : ByteArray) (h : 0 < s.size) : ∃ n, Ev (fun k => laws_size.f k s) n ∧ SizeOk s n := by
  by_cases c1 : bt s 0 < 128
  · exact ⟨1, ⟨0, fun k _ => by simp only [laws_size.f]; rw [if_pos (by omega), if_pos c1]⟩, by unfold SizeOk; omega⟩
  · by_cases c2 : bt s 0 ≥ 194
    · obtain ⟨r, ⟨K, hK⟩, hr⟩ := size_j0 s (bt s 0) 128 191 (decide (bt s 0 ≤ 223))
      exact ⟨r, ⟨K, fun k hk => by simp only [laws_size.f]; rw [if_pos (by omega), if_neg c1, if_pos c2]; exact hK k hk⟩, hr⟩
    · obtain ⟨r, ⟨K, hK⟩, hr⟩ := size_j0 s (bt s 0) 128 191 false
      exact ⟨r, ⟨K, fun k hk => by simp only [laws_size.f]; rw [if_pos (by omega), if_neg c1, if_neg c2]; exact hK k hk⟩, hr⟩

theorem size_pos {s : ByteArray} (h : ¬ s.toList = ([] : List UInt8)) : 0 < s.size := by
  rcases Nat.eq_zero_or_pos s.size with h0 | h0
  · exfalso
    apply h
    rw [ByteArray.toList_eq]
    have : s.data.size = 0 := h0
    exact List.length_eq_zero_iff.1 (by rw [Array.length_toList]; exact this)
  · exact h0
theorem signs_l0 (d : Nat) : ∀ (s : ByteArray) (acc : List ByteArray), s.size ≤ d → acc.length + d ≤ 2147483648 → ∃ r, Ev (fun k => laws_signs.l0 k s acc) r := by
  induction d with
  | zero =>
    intro s acc h1 h2
    have h0 : s.toList = ([] : List UInt8) := by
      rw [ByteArray.toList_eq]
      have : s.data.size = 0 := by have : s.size = s.data.size := rfl; omega
      exact List.length_eq_zero_iff.1 (by rw [Array.length_toList]; exact this)
    exact ⟨(acc, true), ev1 0 fun k _ => by simp only [laws_signs.l0]; rw [if_pos h0]⟩
  | succ d ih =>
    intro s acc h1 h2
    by_cases h0 : s.toList = ([] : List UInt8)
    · exact ⟨(acc, true), ev1 0 fun k _ => by simp only [laws_signs.l0]; rw [if_pos h0]⟩
    · obtain ⟨n, ⟨K, hK⟩, hn0, hn1⟩ := size_ev s (size_pos h0)
      dsimp only at hK
      by_cases c0 : n = 0
      · exact ⟨(([] : List ByteArray), false), ev1 K fun k hk => by simp only [laws_signs.l0]; rw [if_neg h0, hK k hk]; simp only [Option.bind_some]; rw [if_pos c0]⟩
      · obtain ⟨r, K2, hK2⟩ := ih (s.extract n.toNat s.size) (acc ++ [s.extract 0 n.toNat]) (by rw [ByteArray.size_extract]; omega) (by simp; omega)
        exact ⟨r, ev1 (max K K2) fun k hk => by
          simp only [laws_signs.l0]
          rw [if_neg h0, hK k (by omega)]
          simp only [Option.bind_some]
          rw [if_neg c0, if_pos hn0, if_pos hn1, if_pos (by omega)]
          exact hK2 k (by omega)⟩
theorem signs_ev (s : ByteArray) (h : s.size ≤ 2147483647) : ∃ r, Ev (fun k => laws_signs.f k s) r := by
  obtain ⟨r, K, hK⟩ := signs_l0 s.size s [] (Nat.le_refl _) (by simp; omega)
  exact ⟨r, K, fun k hk => by simp only [laws_signs.f]; exact hK k hk⟩

/-- What 'clean' tells of a text: it is short. -/
def Clean1 (most : Int) (s : ByteArray) : Prop := (s.size : Int) ≤ most ∧ ∀ j : Nat, j < s.size → bt s (j : Int) ≠ 0
theorem clean_l1 (most : Int) (s : ByteArray) (hs : s.size ≤ 2147483647) (xs : List ByteArray) (n i : Int) (b : Bool) (hnext : Ev (fun k => laws_clean.l0 k most xs n (wrap64 (i + 1))) b) (d : Nat) : ∀ j : Nat, j + d = s.size → ∃ c, Ev (fun k => laws_clean.l1 k most s xs n i (s.size : Int) (j : Int)) c ∧ (c = true → b = true ∧ ∀ q, j ≤ q → q < s.size → bt s (q : Int) ≠ 0) := by
  obtain ⟨K0, hK0⟩ := hnext
  induction d with
  | zero => intro j hj; exact ⟨b, ev1 K0 fun k hk => by simp only [laws_clean.l1]; rw [if_neg (by omega)]; exact hK0 k hk, fun h => ⟨h, fun q h1 h2 => by omega⟩⟩
  | succ d ih =>
    intro j hj
    obtain ⟨c, ⟨K, hK⟩, hc⟩ := ih (j + 1) (by omega)
    by_cases c0 : bt s (j : Int) = 0
    · exact ⟨false, ev1 0 fun k _ => by simp only [laws_clean.l1]; rw [if_pos (by omega), if_pos (by omega), if_pos (by omega), if_pos c0], fun h => by cases h⟩
    · refine ⟨c, ev1 K fun k hk => ?_, fun h => ⟨(hc h).1, fun q h1 h2 => ?_⟩⟩
      · simp only [laws_clean.l1]
        rw [if_pos (by omega), if_pos (by omega), if_pos (by omega), if_neg c0, wr1 (by omega) (by omega)]
        exact hK k hk
      · by_cases e : q = j
        · rw [e]; exact c0
        · exact (hc h).2 q (by omega) h2
theorem clean_j1 (most : Int) (s : ByteArray) (hs : s.size ≤ 2147483647) (xs : List ByteArray) (n i : Int) (b : Bool) (hnext : Ev (fun k => laws_clean.l0 k most xs n (wrap64 (i + 1))) b) (f : Bool) : ∃ c, Ev (fun k => laws_clean.j1 k most s xs n i f) c ∧ (c = true → f = false ∧ b = true ∧ ∀ q, q < s.size → bt s (q : Int) ≠ 0) := by
  cases f with
  | true => exact ⟨false, ev1 0 fun k _ => by simp only [laws_clean.j1]; rw [if_pos trivial], fun h => by cases h⟩
  | false =>
    obtain ⟨c, ⟨K, hK⟩, hc⟩ := clean_l1 most s hs xs n i b hnext s.size 0 (by omega)
    exact ⟨c, ev1 K fun k hk => by simp only [laws_clean.j1]; rw [if_neg (by simp)]; exact hK k hk, fun h => ⟨rfl, (hc h).1, fun q hq => (hc h).2 q (by omega) hq⟩⟩
/-- Told: each text is UTF-8 by 'signs', short and without a byte 0. -/
def SignsOk (s : ByteArray) : Prop := ∃ l, Ev (fun k => laws_signs.f k s) (l, true)
theorem clean_l0 (most : Int) (xs : List ByteArray) (hx : Fit4 xs) (d : Nat) : ∀ i : Nat, i + d = xs.length → ∃ c, Ev (fun k => laws_clean.l0 k most xs (xs.length : Int) (i : Int)) c ∧ (c = true → ∀ j, i ≤ j → ∀ h : j < xs.length, Clean1 most xs[j] ∧ SignsOk xs[j]) := by
  have hx1 := hx.1
  induction d with
  | zero => intro i hi; exact ⟨true, ev1 0 fun k _ => by simp only [laws_clean.l0]; rw [if_neg (by omega)], fun _ j h1 h2 => by omega⟩
  | succ d ih =>
    intro i hi
    obtain ⟨b, hb, hbt⟩ := ih (i + 1) (by omega)
    have hsz := hx.2 xs[i] (List.getElem_mem (by omega))
    have hr := rdOf_nat ByteArray.empty xs i (by omega)
    obtain ⟨⟨l, f⟩, K, hK⟩ := signs_ev xs[i] hsz
    dsimp only at hK
    have hb' : Ev (fun k => laws_clean.l0 k most xs (xs.length : Int) (wrap64 ((i : Int) + 1))) b := by
      rw [wr1 (by omega) (by omega)]
      exact hb
    cases f with
    | false =>
      obtain ⟨c, ⟨K2, hK2⟩, hc⟩ := clean_j1 most xs[i] hsz xs (xs.length : Int) (i : Int) b hb' true
      refine ⟨c, ev1 (max K K2) fun k hk => ?_, fun h => by have := (hc h).1; cases this⟩
      simp only [laws_clean.l0]
      rw [if_pos (by omega), if_pos (by omega), if_pos (by omega), hr, hK k (by omega)]
      simp only [Option.bind_some]
      rw [if_neg (by simp)]
      exact hK2 k (by omega)
    | true =>
      obtain ⟨c, ⟨K2, hK2⟩, hc⟩ := clean_j1 most xs[i] hsz xs (xs.length : Int) (i : Int) b hb' (decide ((xs[i].size : Int) > most))
      refine ⟨c, ev1 (max K K2) fun k hk => ?_, fun h j h1 h2 => ?_⟩
      · simp only [laws_clean.l0]
        rw [if_pos (by omega), if_pos (by omega), if_pos (by omega), hr, hK k (by omega)]
        simp only [Option.bind_some]
        rw [if_pos trivial]
        exact hK2 k (by omega)
      · obtain ⟨h3, h4, h5⟩ := hc h
        by_cases e : j = i
        · subst e
          exact ⟨⟨by have := of_decide_eq_false h3; omega, h5⟩, l, K, hK⟩
        · exact hbt h4 j (by omega) h2
theorem clean_ev (most : Int) (xs : List ByteArray) (hx : Fit4 xs) : ∃ c, Ev (fun k => laws_clean.f k most xs) c ∧ (c = true → ∀ s ∈ xs, Clean1 most s ∧ SignsOk s) := by
  obtain ⟨c, ⟨K, hK⟩, hc⟩ := clean_l0 most xs hx xs.length 0 (by omega)
  refine ⟨c, ⟨K, fun k hk => by simp only [laws_clean.f]; exact hK k hk⟩, fun h s hs => ?_⟩
  obtain ⟨j, hj, rfl⟩ := List.getElem_of_mem hs
  exact hc h j (by omega) hj
end Go.Proofs.YtpjnebmcbeblkaaDoor.X
