/- bytes.LastIndex tells the last place at which bytes stand in bytes: the hash of a window that is rolled is the window's own. -/
import Derived.Test.YthecfligfhpccaaP53
import Derived.Test.YthecfligfhpccaaP43
import Derived.Test.YthecfligfhpccaaP44
import Derived.Laws.Bits128
set_option linter.unusedVariables false
namespace Go.Proofs.Ythecfligfhpccaa.Li
open Go.RowKit Go.Proofs.YthecfligfhpccaaW.PrintWords Go.Proofs.YthecfligfhpccaaW.PrintLast Go.Proofs.YthecfligfhpccaaW.PrintMore Go.Proofs.Ythecfligfhpccaa.P
def By (l : List Int) : Prop := ∀ x ∈ l, 0 ≤ x ∧ x < 256
theorem ev1' {α : Type} {g : Nat → Option α} {r : α} (K : Nat) (h : ∀ k, K ≤ k → g (k + 1) = some r) : Ev g r :=
  ⟨K + 1, fun n hn => by
    obtain ⟨m, rfl⟩ : ∃ m, n = m + 1 := ⟨n - 1, by omega⟩
    exact h m (by omega)⟩
theorem rd_at (xs : List Int) (i : Nat) (h : i < xs.length) : Go.Proofs.YthecfligfhpccaaW.PrintWords.rd xs (i : Int) = xs[i] := by simp [Go.Proofs.YthecfligfhpccaaW.PrintWords.rd, h]
/-- p stands in s at i. -/
def at_ (s p : List Int) (i : Nat) : Bool := (s.drop i).take p.length == p
/-- The last place, from i downwards. -/
def seek (s p : List Int) : Nat → Int
  | 0 => if at_ s p 0 then 0 else -1
  | i + 1 => if at_ s p (i + 1) then ((i + 1 : Nat) : Int) else seek s p i
/-- The last place ahead of i. -/
def below (s p : List Int) : Nat → Int
  | 0 => -1
  | j + 1 => seek s p j
def lastIx (s p : List Int) : Int := if s.length < p.length then -1 else seek s p (s.length - p.length)
theorem seek_yes {s p : List Int} {i : Nat} (h : at_ s p i = true) : seek s p i = (i : Int) := by
  cases i with
  | zero => simp [seek, h]
  | succ i => simp [seek, h]
theorem u8_inj {a b : Int} (ha : 0 ≤ a ∧ a < 256) (hb : 0 ≤ b ∧ b < 256) (h : UInt8.ofNat a.toNat = UInt8.ofNat b.toNat) : a = b := by
  have := congrArg UInt8.toNat h
  simp only [UInt8.toNat_ofNat'] at this
  omega
theorem str_inj : ∀ {a b : List Int}, By a → By b → (strOfNums a).toList = (strOfNums b).toList → a = b := by
  intro a b ha hb h
  rw [Go.ByteArray.toList_eq, Go.ByteArray.toList_eq] at h
  simp only [strOfNums] at h
  induction a generalizing b with
  | nil => cases b with
    | nil => rfl
    | cons y b => simp at h
  | cons x a ih => cases b with
    | nil => simp at h
    | cons y b =>
      simp only [List.map_cons, List.cons.injEq] at h
      have h1 := u8_inj (ha x List.mem_cons_self) (hb y List.mem_cons_self) h.1
      have h2 := ih (fun z hz => ha z (List.mem_cons_of_mem _ hz)) (fun z hz => hb z (List.mem_cons_of_mem _ hz)) h.2
      rw [h1, h2]
theorem By.drop {l : List Int} (h : By l) (n : Nat) : By (l.drop n) := fun x hx => h x (List.mem_of_mem_drop hx)
theorem By.take {l : List Int} (h : By l) (n : Nat) : By (l.take n) := fun x hx => h x (List.mem_of_mem_take hx)
theorem str_eq {a b : List Int} (ha : By a) (hb : By b) : ((strOfNums a).toList == (strOfNums b).toList) = (a == b) := by
  by_cases h : a = b
  · subst h; simp
  · have : (strOfNums a).toList ≠ (strOfNums b).toList := fun e => h (str_inj ha hb e)
    rw [beq_eq_false_iff_ne.2 h, beq_eq_false_iff_ne.2 this]
/-! ### The hash -/
/-- The hash, not cut. -/
def hx : List Int → Int
  | [] => 0
  | x :: xs => x + 16777619 * hx xs
def pw : Nat → Int
  | 0 => 1
  | n + 1 => 16777619 * pw n
theorem hx_snoc (l : List Int) (y : Int) : hx (l ++ [y]) = hx l + pw l.length * y := by
  induction l with
  | nil => simp [hx, pw]
  | cons x l ih =>
    simp only [List.cons_append, hx, ih, List.length_cons, pw]
    rw [Int.mul_add, Int.mul_assoc]
    omega
/-- hashStrRev's first loop. -/
theorem hash_l0 (s : List Int) (hs : By s) (hl : s.length ≤ 2147483647) (K0 : Nat) (r : Int × Int) (hfin : ∀ k, K0 ≤ k → bytealg_hashStrRev_byte.l1 k (hx s % 4294967296) 1 16777619 (s.length : Int) = some r) :
    ∀ i : Nat, i ≤ s.length → Ev (fun k => bytealg_hashStrRev_byte.l0 k s (hx (s.drop i) % 4294967296) ((i : Int) - 1)) r := by
  intro i
  induction i with
  | zero =>
    intro _
    rw [List.drop_zero]
    exact ev1' K0 fun k hk => by
      simp only [bytealg_hashStrRev_byte.l0]
      rw [if_neg (by omega)]
      exact hfin k hk
  | succ i ih =>
    intro hi
    obtain ⟨K, hK⟩ := ih (by omega)
    dsimp only at hK
    have hx1 := hs s[i] (List.getElem_mem (by omega))
    have hd : s.drop i = s[i] :: s.drop (i + 1) := List.drop_eq_getElem_cons (by omega)
    exact ev1' K fun k hk => by
      have := hK k hk
      rw [hd] at this
      have e1 : ((i + 1 : Nat) : Int) - 1 = (i : Int) := by omega
      have e2 : wrap64 ((i : Int) - 1) = (i : Int) - 1 := by unfold wrap64; omega
      simp only [bytealg_hashStrRev_byte.l0]
      rw [e1, if_pos (by omega), if_pos (by omega), if_pos (by omega), rd_at s i (by omega), e2]
      rw [show ((hx (s.drop (i + 1)) % 4294967296 * 16777619 % 4294967296 + s[i] % 4294967296) % 4294967296) = hx (s[i] :: s.drop (i + 1)) % 4294967296 by simp only [hx]; omega]
      exact this
theorem and1 (n : Int) : Go.bits .and .i64 n 1 = n % 2 := by
  have h1 : (BitVec.ofInt 64 1).toNat = 2 ^ 1 - 1 := by decide
  have key : (BitVec.ofInt 64 n &&& BitVec.ofInt 64 1).toNat = (n % ((2 ^ 64 : Nat) : Int)).toNat % 2 ^ 1 := by
    rw [BitVec.toNat_and, BitVec.toNat_ofInt, h1, Nat.and_two_pow_sub_one_eq_mod]
  show IntKind.i64.wrap ((BitVec.ofInt 64 n &&& BitVec.ofInt 64 1).toNat : Nat) = n % 2
  rw [key, IntKind.wrap_i64]
  omega
theorem mulmod (a b c d : Int) (h1 : a % 4294967296 = c % 4294967296) (h2 : b % 4294967296 = d % 4294967296) : (a * b) % 4294967296 = (c * d) % 4294967296 := by
  rw [Int.mul_emod, h1, h2, ← Int.mul_emod]
theorem pw_add (a b : Nat) : pw (a + b) = pw a * pw b := by
  induction a with
  | zero => simp [pw]
  | succ a ih => rw [show a + 1 + b = (a + b) + 1 by omega]; simp only [pw]; rw [ih, Int.mul_assoc]
theorem half_even (q sq m : Nat) : q + (sq + sq) * m = q + sq * (2 * m) := by
  rw [Nat.mul_left_comm, Nat.add_mul]; omega
theorem half_odd (q sq m : Nat) : q + sq + (sq + sq) * m = q + sq * (2 * m + 1) := by
  rw [Nat.mul_add, Nat.mul_left_comm, Nat.add_mul]; omega
/-- The power by squares: x6 so far, x7 = pw (2^j), n left. -/
theorem hash_l1 (H : Int) (T : Nat) : ∀ (n : Nat), n ≤ 2147483647 → ∀ (q sq : Nat) (x6 x7 : Int), x6 % 4294967296 = pw q % 4294967296 → x7 % 4294967296 = pw sq % 4294967296 → 0 ≤ x6 → x6 < 4294967296 → q + sq * n = T → Ev (fun k => bytealg_hashStrRev_byte.l1 k H x6 x7 (n : Int)) (H, pw T % 4294967296) := by
  intro n
  induction n using Nat.strongRecOn with
  | _ n ih =>
    intro hn q sq x6 x7 h6 h7 hp hq hT
    by_cases h0 : n = 0
    · subst h0
      have : x6 = pw T % 4294967296 := by rw [← hT, Nat.mul_zero, Nat.add_zero, ← h6]; omega
      subst this
      exact ev1' 0 fun k hk => by
        simp only [bytealg_hashStrRev_byte.l1]
        rw [if_neg (by omega)]
    · have hsq : (x7 * x7 % 4294967296) % 4294967296 = pw (sq + sq) % 4294967296 := by
        rw [Int.emod_emod_of_dvd _ (Int.dvd_refl _), pw_add]
        exact mulmod _ _ _ _ h7 h7
      have hhalf : ((n : Int) / 2) = ((n / 2 : Nat) : Int) := by omega
      by_cases hb : n % 2 = 0
      · obtain ⟨K, hK⟩ := ih (n / 2) (by omega) (by omega) q (sq + sq) x6 (x7 * x7 % 4294967296) h6 hsq hp hq (by rw [← hT, half_even]; congr 2; omega)
        dsimp only at hK
        exact ev1' K fun k hk => by
          simp only [bytealg_hashStrRev_byte.l1]
          rw [if_pos (by omega), and1, if_pos (by omega), hhalf]
          exact hK k hk
      · have h6' : (x6 * x7 % 4294967296) % 4294967296 = pw (q + sq) % 4294967296 := by
          rw [Int.emod_emod_of_dvd _ (Int.dvd_refl _), pw_add]
          exact mulmod _ _ _ _ h6 h7
        obtain ⟨K, hK⟩ := ih (n / 2) (by omega) (by omega) (q + sq) (sq + sq) (x6 * x7 % 4294967296) (x7 * x7 % 4294967296) h6' hsq (by omega) (by omega) (by rw [← hT, half_odd]; congr 2; omega)
        dsimp only at hK
        exact ev1' K fun k hk => by
          simp only [bytealg_hashStrRev_byte.l1]
          rw [if_pos (by omega), and1, if_neg (by omega), hhalf]
          exact hK k hk
theorem hash_ev (s : List Int) (hs : By s) (hl : s.length ≤ 2147483647) : Ev (fun k => bytealg_hashStrRev_byte.f k s) (hx s % 4294967296, pw s.length % 4294967296) := by
  obtain ⟨K0, h0⟩ := hash_l1 (hx s % 4294967296) s.length s.length hl 0 1 1 16777619 (by simp [pw]) (by simp [pw]) (by omega) (by omega) (by omega)
  dsimp only at h0
  obtain ⟨K, hK⟩ := hash_l0 s hs hl K0 _ h0 s.length (Nat.le_refl _)
  dsimp only at hK
  refine ⟨K, fun k hk => ?_⟩
  have := hK k hk
  rw [List.drop_length] at this
  simp only [bytealg_hashStrRev_byte.f]
  rw [show wrap64 ((s.length : Int) - 1) = (s.length : Int) - 1 by unfold wrap64; omega]
  exact this
/-- One byte: the last place. -/
theorem byte_l0 (s : List Int) (b : Int) (hl : s.length ≤ 2147483647) : ∀ i : Nat, i ≤ s.length → Ev (fun k => bytealg_LastIndexByte.l0 k s b ((i : Int) - 1)) (below s [b] i) := by
  intro i
  induction i with
  | zero =>
    intro _
    exact ev1' 0 fun k hk => by
      simp only [bytealg_LastIndexByte.l0]
      rw [if_neg (by omega)]
      rfl
  | succ i ih =>
    intro hi
    obtain ⟨K, hK⟩ := ih (by omega)
    dsimp only at hK
    have e1 : ((i + 1 : Nat) : Int) - 1 = (i : Int) := by omega
    have hd : s.drop i = s[i] :: s.drop (i + 1) := List.drop_eq_getElem_cons (by omega)
    have hat : at_ s [b] i = (s[i] == b) := by
      unfold at_; rw [hd, Bool.eq_iff_iff]
      simp only [beq_iff_eq, List.take_succ_cons, List.take_zero, List.cons.injEq, and_true, List.length_cons, List.length_nil]
    by_cases h : s[i] = b
    · exact ev1' 0 fun k hk => by
        simp only [bytealg_LastIndexByte.l0]
        rw [e1, if_pos (by omega), if_pos (by omega), if_pos (by omega), rd_at s i (by omega), if_pos h, below, seek_yes (by rw [hat, beq_iff_eq]; exact h)]
    · have hs : below s [b] (i + 1) = below s [b] i := by
        cases i with
        | zero => simp [below, seek, hat, h]
        | succ i => simp [below, seek, hat, h]
      exact ev1' K fun k hk => by
        simp only [bytealg_LastIndexByte.l0]
        rw [e1, if_pos (by omega), if_pos (by omega), if_pos (by omega), rd_at s i (by omega), if_neg h, hs, show wrap64 ((i : Int) - 1) = (i : Int) - 1 by unfold wrap64; omega]
        exact hK k hk
theorem byte_ev (s : List Int) (b : Int) (hl : s.length ≤ 2147483647) : Ev (fun k => bytealg_LastIndexByte.f k s b) (lastIx s [b]) := by
  obtain ⟨K, hK⟩ := byte_l0 s b hl s.length (Nat.le_refl _)
  dsimp only at hK
  refine ⟨K, fun k hk => ?_⟩
  have := hK k hk
  simp only [bytealg_LastIndexByte.f]
  rw [show wrap64 ((s.length : Int) - 1) = (s.length : Int) - 1 by unfold wrap64; omega, this]
  unfold lastIx
  cases hl : s.length with
  | zero => simp [below]
  | succ n => simp [below]
/-- A window that is rolled on by one byte. -/
theorem roll (x y h q : Int) (mid : List Int) (n : Nat) (hn : mid.length + 1 = n) (hh : h = hx (mid ++ [y]) % 4294967296) (hq : q = pw n % 4294967296) (hy : 0 ≤ y ∧ y < 256) (hx0 : 0 ≤ x ∧ x < 256) :
    (((h * 16777619) % 4294967296 + x % 4294967296) % 4294967296 - (q * (y % 4294967296)) % 4294967296) % 4294967296 = hx (x :: mid) % 4294967296 := by
  have h1 : hx (mid ++ [y]) = hx mid + pw mid.length * y := hx_snoc mid y
  have h2 : pw n = 16777619 * pw mid.length := by rw [← hn]; rfl
  have hym : y % 4294967296 = y := by omega
  have h3 : (q * y) % 4294967296 = (16777619 * (pw mid.length * y)) % 4294967296 := by
    rw [← Int.mul_assoc, ← h2, hq]
    exact mulmod _ _ _ _ (Int.emod_emod_of_dvd _ (Int.dvd_refl _)) rfl
  rw [hym, h3, hh, h1]
  simp only [hx]
  generalize pw mid.length * y = t
  omega
end Go.Proofs.Ythecfligfhpccaa.Li
