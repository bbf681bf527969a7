/- bytes.LastIndex tells the last place at which bytes stand in bytes: the hash of a window that is rolled is the window's own. FindAllOccs, plain: the places of a part from a text's end on, without overlaps; what the map holds. bytes.LastIndex: the walk. Raw maps whose entries know when they were laid: updates, and 'range' over one. gse.FindAllOccs: the walk. gse.FindAllOccs: the walk, the loops. sort.Strings over rows of texts; between rows of cells and the print's kinds; append of a whole row. impl.Places, impl.PlacesSorted: the walks. impl.PlacesSorted: the walk. -/
import Derived.Test.YthecfligfhpccaaDoorP43
import Derived.Test.YthecfligfhpccaaDoorP36
import Derived.Test.YthecfligfhpccaaDoorP37
import Derived.Laws.Bits128
import Derived.Test.YthecfligfhpccaaDoorMGn
import Derived.Deep.QuietTactic
import Derived.Maps.RangeRun
import Derived.Test.YthecfligfhpccaaDoorP0
import Derived.Test.YthecfligfhpccaaDoorShelf
import Derived.Maps.RangeWalk
set_option linter.unusedVariables false
namespace Go.Proofs.YthecfligfhpccaaDoor.Li
open Go.RowKit Go.Proofs.YthecfligfhpccaaDoorW.PrintWords Go.Proofs.YthecfligfhpccaaDoorW.PrintLast Go.Proofs.YthecfligfhpccaaDoorW.PrintMore Go.Proofs.YthecfligfhpccaaDoor.P
def By (l : List Int) : Prop := ∀ x ∈ l, 0 ≤ x ∧ x < 256
theorem ev1' {α : Type} {g : Nat → Option α} {r : α} (K : Nat) (h : ∀ k, K ≤ k → g (k + 1) = some r) : Ev g r :=
  ⟨K + 1, fun n hn => by
    obtain ⟨m, rfl⟩ : ∃ m, n = m + 1 := ⟨n - 1, by omega⟩
    exact h m (by omega)⟩
theorem rd_at (xs : List Int) (i : Nat) (h : i < xs.length) : Go.Proofs.YthecfligfhpccaaDoorW.PrintWords.rd xs (i : Int) = xs[i] := by simp [Go.Proofs.YthecfligfhpccaaDoorW.PrintWords.rd, h]
/-- p stands in s at i. -/
def at_ (s p : List Int) (i : Nat) : Bool := (s.drop i).take p.length == p
/-- The last place, from i downwards. -/
def seek (s p : List Int) : Nat → Int
  | 0 => if at_ s p 0 then 0 else -1
  | i + 1 => if at_ s p (i + 1) then ((i + 1 : Nat) : Int) else seek s p i
/-- The last place ahead of i. -/
def below (s p : List Int) : Nat → Int
  | 0 => -1
  | j + 1 => seek s p j
def lastIx (s p : List Int) : Int := if s.length < p.length then -1 else seek s p (s.length - p.length)
theorem seek_yes {s p : List Int} {i : Nat} (h : at_ s p i = true) : seek s p i = (i : Int) := by
  cases i with
  | zero => simp [seek, h]
  | succ i => simp [seek, h]
theorem u8_inj {a b : Int} (ha : 0 ≤ a ∧ a < 256) (hb : 0 ≤ b ∧ b < 256) (h : UInt8.ofNat a.toNat = UInt8.ofNat b.toNat) : a = b := by
  have := congrArg UInt8.toNat h
  simp only [UInt8.toNat_ofNat'] at this
  omega
theorem str_inj : ∀ {a b : List Int}, By a → By b → (strOfNums a).toList = (strOfNums b).toList → a = b := by
  intro a b ha hb h
  rw [Go.ByteArray.toList_eq, Go.ByteArray.toList_eq] at h
  simp only [strOfNums] at h
  induction a generalizing b with
  | nil => cases b with
    | nil => rfl
    | cons y b => simp at h
  | cons x a ih => cases b with
    | nil => simp at h
    | cons y b =>
      simp only [List.map_cons, List.cons.injEq] at h
      have h1 := u8_inj (ha x List.mem_cons_self) (hb y List.mem_cons_self) h.1
      have h2 := ih (fun z hz => ha z (List.mem_cons_of_mem _ hz)) (fun z hz => hb z (List.mem_cons_of_mem _ hz)) h.2
      rw [h1, h2]
theorem By.drop {l : List Int} (h : By l) (n : Nat) : By (l.drop n) := fun x hx => h x (List.mem_of_mem_drop hx)
theorem By.take {l : List Int} (h : By l) (n : Nat) : By (l.take n) := fun x hx => h x (List.mem_of_mem_take hx)
theorem str_eq {a b : List Int} (ha : By a) (hb : By b) : ((strOfNums a).toList == (strOfNums b).toList) = (a == b) := by
  by_cases h : a = b
  · subst h; simp
  · have : (strOfNums a).toList ≠ (strOfNums b).toList := fun e => h (str_inj ha hb e)
    rw [beq_eq_false_iff_ne.2 h, beq_eq_false_iff_ne.2 this]
/-! ### The hash -/
/-- The hash, not cut. -/
def hx : List Int → Int
  | [] => 0
  | x :: xs => x + 16777619 * hx xs
def pw : Nat → Int
  | 0 => 1
  | n + 1 => 16777619 * pw n
theorem hx_snoc (l : List Int) (y : Int) : hx (l ++ [y]) = hx l + pw l.length * y := by
  induction l with
  | nil => simp [hx, pw]
  | cons x l ih =>
    simp only [List.cons_append, hx, ih, List.length_cons, pw]
    rw [Int.mul_add, Int.mul_assoc]
    omega
/-- hashStrRev's first loop. -/
theorem hash_l0 (s : List Int) (hs : By s) (hl : s.length ≤ 2147483647) (K0 : Nat) (r : Int × Int) (hfin : ∀ k, K0 ≤ k → bytealg_hashStrRev_byte.l1 k (hx s % 4294967296) 1 16777619 (s.length : Int) = some r) :
    ∀ i : Nat, i ≤ s.length → Ev (fun k => bytealg_hashStrRev_byte.l0 k s (hx (s.drop i) % 4294967296) ((i : Int) - 1)) r := by
  intro i
  induction i with
  | zero =>
    intro _
    rw [List.drop_zero]
    exact ev1' K0 fun k hk => by
      simp only [bytealg_hashStrRev_byte.l0]
      rw [if_neg (by omega)]
      exact hfin k hk
  | succ i ih =>
    intro hi
    obtain ⟨K, hK⟩ := ih (by omega)
    dsimp only at hK
    have hx1 := hs s[i] (List.getElem_mem (by omega))
    have hd : s.drop i = s[i] :: s.drop (i + 1) := List.drop_eq_getElem_cons (by omega)
    exact ev1' K fun k hk => by
      have := hK k hk
      rw [hd] at this
      have e1 : ((i + 1 : Nat) : Int) - 1 = (i : Int) := by omega
      have e2 : wrap64 ((i : Int) - 1) = (i : Int) - 1 := by unfold wrap64; omega
      simp only [bytealg_hashStrRev_byte.l0]
      rw [e1, if_pos (by omega), if_pos (by omega), if_pos (by omega), rd_at s i (by omega), e2]
      rw [show ((hx (s.drop (i + 1)) % 4294967296 * 16777619 % 4294967296 + s[i] % 4294967296) % 4294967296) = hx (s[i] :: s.drop (i + 1)) % 4294967296 by simp only [hx]; omega]
      exact this
theorem and1 (n : Int) : Go.bits .and .i64 n 1 = n % 2 := by
  have h1 : (BitVec.ofInt 64 1).toNat = 2 ^ 1 - 1 := by decide
  have key : (BitVec.ofInt 64 n &&& BitVec.ofInt 64 1).toNat = (n % ((2 ^ 64 : Nat) : Int)).toNat % 2 ^ 1 := by
    rw [BitVec.toNat_and, BitVec.toNat_ofInt, h1, Nat.and_two_pow_sub_one_eq_mod]
  show IntKind.i64.wrap ((BitVec.ofInt 64 n &&& BitVec.ofInt 64 1).toNat : Nat) = n % 2
  rw [key, IntKind.wrap_i64]
  omega
theorem mulmod (a b c d : Int) (h1 : a % 4294967296 = c % 4294967296) (h2 : b % 4294967296 = d % 4294967296) : (a * b) % 4294967296 = (c * d) % 4294967296 := by
  rw [Int.mul_emod, h1, h2, ← Int.mul_emod]
theorem pw_add (a b : Nat) : pw (a + b) = pw a * pw b := by
  induction a with
  | zero => simp [pw]
  | succ a ih => rw [show a + 1 + b = (a + b) + 1 by omega]; simp only [pw]; rw [ih, Int.mul_assoc]
theorem half_even (q sq m : Nat) : q + (sq + sq) * m = q + sq * (2 * m) := by
  rw [Nat.mul_left_comm, Nat.add_mul]; omega
theorem half_odd (q sq m : Nat) : q + sq + (sq + sq) * m = q + sq * (2 * m + 1) := by
  rw [Nat.mul_add, Nat.mul_left_comm, Nat.add_mul]; omega
/-- The power by squares: x6 so far, x7 = pw (2^j), n left. -/
theorem hash_l1 (H : Int) (T : Nat) : ∀ (n : Nat), n ≤ 2147483647 → ∀ (q sq : Nat) (x6 x7 : Int), x6 % 4294967296 = pw q % 4294967296 → x7 % 4294967296 = pw sq % 4294967296 → 0 ≤ x6 → x6 < 4294967296 → q + sq * n = T → Ev (fun k => bytealg_hashStrRev_byte.l1 k H x6 x7 (n : Int)) (H, pw T % 4294967296) := by
  intro n
  induction n using Nat.strongRecOn with
  | _ n ih =>
    intro hn q sq x6 x7 h6 h7 hp hq hT
    by_cases h0 : n = 0
    · subst h0
      have : x6 = pw T % 4294967296 := by rw [← hT, Nat.mul_zero, Nat.add_zero, ← h6]; omega
      subst this
      exact ev1' 0 fun k hk => by
        simp only [bytealg_hashStrRev_byte.l1]
        rw [if_neg (by omega)]
    · have hsq : (x7 * x7 % 4294967296) % 4294967296 = pw (sq + sq) % 4294967296 := by
        rw [Int.emod_emod_of_dvd _ (Int.dvd_refl _), pw_add]
        exact mulmod _ _ _ _ h7 h7
      have hhalf : ((n : Int) / 2) = ((n / 2 : Nat) : Int) := by omega
      by_cases hb : n % 2 = 0
      · obtain ⟨K, hK⟩ := ih (n / 2) (by omega) (by omega) q (sq + sq) x6 (x7 * x7 % 4294967296) h6 hsq hp hq (by rw [← hT, half_even]; congr 2; omega)
        dsimp only at hK
        exact ev1' K fun k hk => by
          simp only [bytealg_hashStrRev_byte.l1]
          rw [if_pos (by omega), and1, if_pos (by omega), hhalf]
          exact hK k hk
      · have h6' : (x6 * x7 % 4294967296) % 4294967296 = pw (q + sq) % 4294967296 := by
          rw [Int.emod_emod_of_dvd _ (Int.dvd_refl _), pw_add]
          exact mulmod _ _ _ _ h6 h7
        obtain ⟨K, hK⟩ := ih (n / 2) (by omega) (by omega) (q + sq) (sq + sq) (x6 * x7 % 4294967296) (x7 * x7 % 4294967296) h6' hsq (by omega) (by omega) (by rw [← hT, half_odd]; congr 2; omega)
        dsimp only at hK
        exact ev1' K fun k hk => by
          simp only [bytealg_hashStrRev_byte.l1]
          rw [if_pos (by omega), and1, if_neg (by omega), hhalf]
          exact hK k hk
theorem hash_ev (s : List Int) (hs : By s) (hl : s.length ≤ 2147483647) : Ev (fun k => bytealg_hashStrRev_byte.f k s) (hx s % 4294967296, pw s.length % 4294967296) := by
  obtain ⟨K0, h0⟩ := hash_l1 (hx s % 4294967296) s.length s.length hl 0 1 1 16777619 (by simp [pw]) (by simp [pw]) (by omega) (by omega) (by omega)
  dsimp only at h0
  obtain ⟨K, hK⟩ := hash_l0 s hs hl K0 _ h0 s.length (Nat.le_refl _)
  dsimp only at hK
  refine ⟨K, fun k hk => ?_⟩
  have := hK k hk
  rw [List.drop_length] at this
  simp only [bytealg_hashStrRev_byte.f]
  rw [show wrap64 ((s.length : Int) - 1) = (s.length : Int) - 1 by unfold wrap64; omega]
  exact this
/-- One byte: the last place. -/
theorem byte_l0 (s : List Int) (b : Int) (hl : s.length ≤ 2147483647) : ∀ i : Nat, i ≤ s.length → Ev (fun k => bytealg_LastIndexByte.l0 k s b ((i : Int) - 1)) (below s [b] i) := by
  intro i
  induction i with
  | zero =>
    intro _
    exact ev1' 0 fun k hk => by
      simp only [bytealg_LastIndexByte.l0]
      rw [if_neg (by omega)]
      rfl
  | succ i ih =>
    intro hi
    obtain ⟨K, hK⟩ := ih (by omega)
    dsimp only at hK
    have e1 : ((i + 1 : Nat) : Int) - 1 = (i : Int) := by omega
    have hd : s.drop i = s[i] :: s.drop (i + 1) := List.drop_eq_getElem_cons (by omega)
    have hat : at_ s [b] i = (s[i] == b) := by
      unfold at_; rw [hd, Bool.eq_iff_iff]
      simp only [beq_iff_eq, List.take_succ_cons, List.take_zero, List.cons.injEq, and_true, List.length_cons, List.length_nil]
    by_cases h : s[i] = b
    · exact ev1' 0 fun k hk => by
        simp only [bytealg_LastIndexByte.l0]
        rw [e1, if_pos (by omega), if_pos (by omega), if_pos (by omega), rd_at s i (by omega), if_pos h, below, seek_yes (by rw [hat, beq_iff_eq]; exact h)]
    · have hs : below s [b] (i + 1) = below s [b] i := by
        cases i with
        | zero => simp [below, seek, hat, h]
        | succ i => simp [below, seek, hat, h]
      exact ev1' K fun k hk => by
        simp only [bytealg_LastIndexByte.l0]
        rw [e1, if_pos (by omega), if_pos (by omega), if_pos (by omega), rd_at s i (by omega), if_neg h, hs, show wrap64 ((i : Int) - 1) = (i : Int) - 1 by unfold wrap64; omega]
        exact hK k hk
theorem byte_ev (s : List Int) (b : Int) (hl : s.length ≤ 2147483647) : Ev (fun k => bytealg_LastIndexByte.f k s b) (lastIx s [b]) := by
  obtain ⟨K, hK⟩ := byte_l0 s b hl s.length (Nat.le_refl _)
  dsimp only at hK
  refine ⟨K, fun k hk => ?_⟩
  have := hK k hk
  simp only [bytealg_LastIndexByte.f]
  rw [show wrap64 ((s.length : Int) - 1) = (s.length : Int) - 1 by unfold wrap64; omega, this]
  unfold lastIx
  cases hl : s.length with
  | zero => simp [below]
  | succ n => simp [below]
/-- A window that is rolled on by one byte. -/
theorem roll (x y h q : Int) (mid : List Int) (n : Nat) (hn : mid.length + 1 = n) (hh : h = hx (mid ++ [y]) % 4294967296) (hq : q = pw n % 4294967296) (hy : 0 ≤ y ∧ y < 256) (hx0 : 0 ≤ x ∧ x < 256) :
    (((h * 16777619) % 4294967296 + x % 4294967296) % 4294967296 - (q * (y % 4294967296)) % 4294967296) % 4294967296 = hx (x :: mid) % 4294967296 := by
  have h1 : hx (mid ++ [y]) = hx mid + pw mid.length * y := hx_snoc mid y
  have h2 : pw n = 16777619 * pw mid.length := by rw [← hn]; rfl
  have hym : y % 4294967296 = y := by omega
  have h3 : (q * y) % 4294967296 = (16777619 * (pw mid.length * y)) % 4294967296 := by
    rw [← Int.mul_assoc, ← h2, hq]
    exact mulmod _ _ _ _ (Int.emod_emod_of_dvd _ (Int.dvd_refl _)) rfl
  rw [hym, h3, hh, h1]
  simp only [hx]
  generalize pw mid.length * y = t
  omega
end Go.Proofs.YthecfligfhpccaaDoor.Li
namespace Go.Proofs.YthecfligfhpccaaDoor.Li
open Go.RowKit Go.Proofs.YthecfligfhpccaaDoorW.PrintWords
/-- The places of p in s ahead of i, from there downwards, one not running into the next. -/
def occ (s p : List Int) : Nat → Nat → List Int
  | 0, _ => []
  | f + 1, i => if lastIx (s.take i) p = -1 then [] else lastIx (s.take i) p :: occ s p f (lastIx (s.take i) p).toNat
def occs (s p : List Int) : List Int := occ s p (s.length + 1) s.length
theorem seek_range (s p : List Int) : ∀ i : Nat, seek s p i = -1 ∨ (0 ≤ seek s p i ∧ seek s p i ≤ i ∧ at_ s p (seek s p i).toNat = true) := by
  intro i
  induction i with
  | zero =>
    unfold seek
    by_cases h : at_ s p 0 = true
    · rw [if_pos h]; exact .inr ⟨by omega, by omega, h⟩
    · rw [if_neg h]; exact .inl rfl
  | succ i ih =>
    unfold seek
    by_cases h : at_ s p (i + 1) = true
    · rw [if_pos h]; exact .inr ⟨by omega, by omega, by rw [Int.toNat_natCast]; exact h⟩
    · rw [if_neg h]
      rcases ih with ih | ⟨h1, h2, h3⟩
      · exact .inl ih
      · exact .inr ⟨h1, by omega, h3⟩
/-- The last place lies so far ahead of the end that p has room behind it. -/
theorem lastIx_range (s p : List Int) : lastIx s p = -1 ∨ (0 ≤ lastIx s p ∧ lastIx s p + p.length ≤ s.length ∧ at_ s p (lastIx s p).toNat = true) := by
  unfold lastIx
  by_cases h : s.length < p.length
  · rw [if_pos h]; exact .inl rfl
  · rw [if_neg h]
    rcases seek_range s p (s.length - p.length) with g | ⟨g1, g2, g3⟩
    · exact .inl g
    · exact .inr ⟨g1, by omega, g3⟩
/-- Enough rounds are enough. -/
theorem occ_enough (s p : List Int) (hp : 1 ≤ p.length) : ∀ (f i : Nat), i < f → i ≤ s.length → occ s p f i = occ s p (s.length + 1) i := by
  have key : ∀ (f g i : Nat), i < f → i < g → i ≤ s.length → occ s p f i = occ s p g i := by
    intro f
    induction f with
    | zero => intro g i h; omega
    | succ f ih =>
      intro g i hf hg hi
      obtain ⟨g', rfl⟩ : ∃ g', g = g' + 1 := ⟨g - 1, by omega⟩
      simp only [occ]
      rcases lastIx_range (s.take i) p with h | ⟨h1, h2, _⟩
      · rw [if_pos h, if_pos h]
      · rw [if_neg (by omega), if_neg (by omega)]
        rw [List.length_take] at h2
        rw [ih g' (lastIx (s.take i) p).toNat (by omega) (by omega) (by omega)]
  intro f i h hi
  exact key f (s.length + 1) i h (by omega) hi
end Go.Proofs.YthecfligfhpccaaDoor.Li
namespace Go.Proofs.YthecfligfhpccaaDoor.Li
/-! ### What the map holds -/
def getM {β : Type} : List (ByteArray × β) → ByteArray → Option β
  | [], _ => none
  | p :: D, k => if p.1 = k then some p.2 else getM D k
def putM {β : Type} : List (ByteArray × β) → ByteArray → β → List (ByteArray × β)
  | [], k, v => [(k, v)]
  | p :: D, k, v => if p.1 = k then (k, v) :: D else p :: putM D k v
theorem getM_putM {β : Type} (D : List (ByteArray × β)) (k k' : ByteArray) (v : β) : getM (putM D k v) k' = if k' = k then some v else getM D k' := by
  induction D with
  | nil =>
    unfold putM getM getM
    by_cases e : k' = k
    · subst e; simp
    · rw [if_neg e, if_neg (fun g => e g.symm)]
  | cons p D ih =>
    unfold putM
    by_cases e : p.1 = k
    · rw [if_pos e]
      unfold getM
      by_cases e2 : k' = k
      · subst e2; simp
      · rw [if_neg e2, if_neg (fun g => e2 g.symm), if_neg (fun g => e2 (by rw [← g, e]))]
    · rw [if_neg e]
      unfold getM
      by_cases e2 : p.1 = k'
      · rw [if_pos e2, if_pos e2, if_neg (fun g => e (by rw [e2, g]))]
      · rw [if_neg e2, if_neg e2, ih]
theorem putM_keys {β γ : Type} : ∀ (D : List (ByteArray × β)) (E : List (ByteArray × γ)) (k : ByteArray) (v : β) (u : γ), D.map (·.1) = E.map (·.1) → (putM D k v).map (·.1) = (putM E k u).map (·.1)
  | [], [], _, _, _, _ => rfl
  | [], _ :: _, _, _, _, h => by cases h
  | _ :: _, [], _, _, _, h => by cases h
  | p :: D, q :: E, k, v, u, h => by
    simp only [List.map_cons, List.cons.injEq] at h
    unfold putM
    rw [h.1]
    by_cases e : q.1 = k
    · rw [if_pos e, if_pos e]; simp [h.2]
    · rw [if_neg e, if_neg e]; simp [h.1, putM_keys D E k v u h.2]
/-- One more place of p. -/
def addM (D : List (ByteArray × List Int)) (p : ByteArray) (m : Int) : List (ByteArray × List Int) := putM D p ((getM D p).getD [] ++ [m])
/-- The places of p, one by one. -/
def addAll (D : List (ByteArray × List Int)) (p : ByteArray) (ms : List Int) : List (ByteArray × List Int) := ms.foldl (fun D m => addM D p m) D
theorem getM_addAll (p k : ByteArray) : ∀ (ms : List Int) (D : List (ByteArray × List Int)), getM (addAll D p ms) k = if k = p ∧ ms ≠ [] then some ((getM D p).getD [] ++ ms) else getM D k
  | [], D => by simp [addAll]
  | m :: ms, D => by
    have h := getM_addAll p k ms (addM D p m)
    show getM (addAll (addM D p m) p ms) k = _
    rw [h]
    unfold addM
    by_cases e : k = p
    · subst e
      by_cases e2 : ms = []
      · subst e2; simp [getM_putM]
      · simp [getM_putM, e2]
    · simp [e, getM_putM]
end Go.Proofs.YthecfligfhpccaaDoor.Li
namespace Go.Proofs.YthecfligfhpccaaDoor.Li
open Go.RowKit Go.Proofs.YthecfligfhpccaaDoorW.PrintWords Go.Proofs.YthecfligfhpccaaDoorW.PrintLast Go.Proofs.YthecfligfhpccaaDoorW.PrintMore Go.Proofs.YthecfligfhpccaaDoor.P
theorem info5 : (Tryd.prog.info? 5).map (fun i => (i.zero, i.size, i.bytes)) = some (some (.int .u8 0), 1, 1) := by kernel_rfl
theorem win_snoc (s : List Int) (j n : Nat) (h1 : 1 ≤ n) (h : j + n < s.length) : (s.drop (j + 1)).take n = (s.drop (j + 1)).take (n - 1) ++ [s[j + n]] := by
  obtain ⟨m, rfl⟩ : ∃ m, n = m + 1 := ⟨n - 1, by omega⟩
  rw [List.take_succ_eq_append_getElem (by rw [List.length_drop]; omega), List.getElem_drop]
  simp only [Nat.add_sub_cancel]
  congr 2
  congr 1
  omega
theorem win_cons (s : List Int) (j n : Nat) (h1 : 1 ≤ n) (h : j + n < s.length) : (s.drop j).take n = s[j] :: (s.drop (j + 1)).take (n - 1) := by
  obtain ⟨m, rfl⟩ : ∃ m, n = m + 1 := ⟨n - 1, by omega⟩
  rw [List.drop_eq_getElem_cons (show j < s.length by omega)]
  rfl
set_option maxHeartbeats 2000000 in
set_option maxRecDepth 100000 in
theorem rk_calls (w : World) (A0 A1 : Option Addr) (c0 c1 : Nat) (s p : List Int) (hr0 : Kd.C (Kd.int .u8) w A0 s.length s) (hc0 : s.length ≤ c0) (hr1 : Kd.C (Kd.int .u8) w A1 p.length p) (hc1 : p.length ≤ c1)
    (hs : By s) (hp : By p) (h1 : 1 ≤ p.length) (h2 : p.length < s.length) (hl : s.length ≤ 2147483647) :
    Calls Tryd.prog 38 #[.slice A0 s.length c0, .slice A1 p.length c1] w fun e w' => e = .returned (.int .i64 (lastIx s p)) ∧ Drawn0 w w' := by
  obtain ⟨K, hK⟩ := hash_ev p hp (by omega)
  have hh := bytealg_hashStrRev_byte.calls K A1 c1 p _ _ w hr1 hc1 (hK K (Nat.le_refl _))
  obtain ⟨h0, HH0⟩ : ∃ h0, Aside0 (h0 = hx p % 4294967296) := ⟨_, ⟨rfl⟩⟩
  obtain ⟨q0, HQ0⟩ : ∃ q0, Aside0 (q0 = pw p.length % 4294967296) := ⟨_, ⟨rfl⟩⟩
  rw [← HH0.out, ← HQ0.out] at hh
  have HH := Aside0.mk hh
  have HR0 := Aside0.mk hr0
  have HR1 := Aside0.mk hr1
  have HC0 := Aside0.mk hc0
  have HC1 := Aside0.mk hc1
  have HS := Aside0.mk hs
  have HP := Aside0.mk hp
  obtain ⟨N, hN⟩ : ∃ N, N = s.length := ⟨_, rfl⟩
  obtain ⟨n, hn⟩ : ∃ n, n = p.length := ⟨_, rfl⟩
  have HN := Aside0.mk hN
  have Hn := Aside0.mk hn
  obtain ⟨L, hL⟩ : ∃ L, L = N - n := ⟨_, rfl⟩
  have hw1 : wrap64 ((N : Int) - (n : Int)) = (L : Int) := by unfold wrap64; omega
  have hw2 : wrap64 ((N : Int) - 1) = (N : Int) - 1 := by unfold wrap64; omega
  have HL : Aside0 (1 ≤ n ∧ n < N ∧ N ≤ 2147483647 ∧ L + n = N) := ⟨by omega, by omega, by omega, by omega⟩
  rw [← hn] at hh hr1
  rw [← hN] at hr0
  have HHn := Aside0.mk hh
  have HR0n := Aside0.mk hr0
  have HR1n := Aside0.mk hr1
  rw [← hN, ← hn]
  clear hK hh hr0 hr1 hc0 hc1 hs hp h1 h2 hl hN hn HH HR0 HR1 hL
  go_enter Tryd.func38, Tryd.ntmps38
  go_wp2_with (go_at_call 43; refine HHn.out.mono ?_; rintro e w1 ⟨rfl, hd1⟩; have HD1 := Aside0.mk hd1; clear hd1)
  go_loopw [9, 10] (fun v9 v10 wr => ∃ (i : Nat) (h : Int), v9 = .int .u32 h ∧ v10 = .int .i64 ((i : Int) - 1) ∧ Aside0 (L ≤ i ∧ i ≤ N) ∧ Aside0 (h = hx (s.drop i) % 4294967296) ∧ Aside0 (Drawn0 w wr)) (fun _ v10 _ => (intOf v10 + 1).toNat)
  case atStart => exact ⟨N, 0, by simp, by simp [hw2], ⟨by have := HL.out; omega, Nat.le_refl _⟩, ⟨by rw [HN.out, List.drop_length]; rfl⟩, HD1⟩
  case round =>
    obtain ⟨i, h, rfl, rfl, HI, HE, HD⟩ := hrel
    obtain ⟨m1, rfl⟩ := HD.out
    by_cases hlt : L < i
    · obtain ⟨j, rfl⟩ : ∃ j, i = j + 1 := ⟨i - 1, by omega⟩
      have e1 : ((j + 1 : Nat) : Int) - 1 = (j : Int) := by omega
      have hj : j < s.length := by have := HI.out.2; have := HN.out; omega
      obtain ⟨ad, ead, cad⟩ := Kd.at_int HR0n.out (j : Int) (by omega) (by have := HI.out.2; omega)
      rw [rd_at s j hj] at cad
      obtain ⟨x, hx1⟩ : ∃ x, x = s[j] := ⟨_, rfl⟩
      rw [← hx1, Int.toNat_natCast] at cad
      have hb := HS.out s[j] (List.getElem_mem _)
      rw [← hx1] at hb
      have K0 : Aside0 (L ≤ j) := ⟨by omega⟩
      have k1 : decide ((L : Int) ≤ (j : Int)) = true := decide_eq_true (by omega)
      have k1' : decide (L ≤ j) = true := decide_eq_true (by omega)
      have k2 : decide ((0 : Int) ≤ (j : Int)) = true := decide_eq_true (by omega)
      have k3 : decide ((j : Int) < (N : Int)) = true := decide_eq_true (by have := HI.out; omega)
      have k4 : (0 : Int) ≤ (j : Int) := by omega
      have k5 : (j : Int) < (N : Int) := by have := HI.out; omega
      have hm : x % 4294967296 = x := by omega
      have hw3 : wrap64 ((j : Int) - 1) = (j : Int) - 1 := by have := HL.out; have := HI.out; unfold wrap64; omega
      have HX := Aside0.mk hx1
      have HB := Aside0.mk hb
      clear hx1 hb hlt
      rw [e1]
      cases A0 with
      | none => cases ead
      | some ad' =>
      obtain rfl : ad' = ad := by injection ead
      clear ead
      go_wp2_with fail
      go_roundw
      case rel => exact ⟨j, _, rfl, by rw [hw3], ⟨K0.out, by have := HI.out; omega⟩, ⟨by
        have hd : s.drop j = s[j] :: s.drop (j + 1) := List.drop_eq_getElem_cons hj
        rw [hd, ← HX.out]
        simp only [hx]
        have := HE.out
        omega⟩, ⟨⟨m1, rfl⟩⟩⟩
      case measure => first | (simp [intOf]; done) | (simp [intOf]; omega)
    · have hi : i = L := by have := HI.out; omega
      subst hi
      have hLs : i ≤ s.length := by have := HI.out; have := HN.out; omega
      have k1 : decide ((i : Int) ≤ (i : Int) - 1) = false := decide_eq_false (by omega)
      have k2 : ((i : Int) ≤ (i : Int) - 1) = False := eq_false (by omega)
      have hseg : (s.drop i).length = n := by rw [List.length_drop]; have := HN.out; have := HL.out; omega
      have hat0 : at_ s p i = ((strOfNums (s.drop i)).toList == (strOfNums p).toList) := by
        rw [str_eq (HS.out.drop i) HP.out]
        unfold at_
        rw [List.take_of_length_le (by have := Hn.out; omega)]
      obtain ⟨i012, hi012, _, hsz12, _⟩ := info_parts info5
      obtain ⟨A12, hcut12, hA12, hC12⟩ := print_drop_of (P := Tryd.prog) (Value.int .u8) 0 43 5 .i64 Tryd.underlying43 hi012 hsz12 A0 c0 s (i : Int) (by omega) (by omega) HC0.out
      have hr2 := Kd.C_of_reads (h1 := fun _ => rfl) (hA12 _ (Kd.reads_of_C (by rw [HN.out] at HR0n; exact HR0n.out)))
      rw [Int.toNat_natCast, hseg] at hcut12 hr2
      have hcv1 := fun m : Nat => Kd.C_string (P := Tryd.prog) (c := (c0 - i)) Tryd.underlying43 Tryd.underlying5 Tryd.underlying9 (Kd.C_drewN hr2 m)
      have hcv2 := fun m : Nat => Kd.C_string (P := Tryd.prog) (c := c1) Tryd.underlying43 Tryd.underlying5 Tryd.underlying9 (Kd.C_drewN HR1n.out m)
      rw [← HN.out] at hcut12
      have hlast : lastIx s p = seek s p i := by
        unfold lastIx
        rw [if_neg (by have := HL.out; have := HN.out; have := Hn.out; omega), show s.length - p.length = i by have := HL.out; have := HN.out; have := Hn.out; omega]
      have hfin : ∀ m (w' : World), w' = w.drewN m → Drawn0 w w' := fun m _ e => ⟨m, e⟩
      have HLA := Aside0.mk hlast
      have HAT := Aside0.mk hat0
      have HHD := Aside0.mk hseg
      have k3 : (0 : Int) ≤ (i : Int) := by omega
      have k4 : (i : Int) ≤ (N : Int) := by have := HI.out; omega
      have hw4 : wrap64 ((i : Int) - 1) = (i : Int) - 1 := by have := HL.out; unfold wrap64; omega
      clear hA12 hC12 hi012 hsz12 hlast hat0 hseg hr2 hLs
      -- behind the first window
      have HNEXT : Aside0 (at_ s p i = false → lastIx s p = below s p i) := ⟨fun e => by
        rw [HLA.out]
        cases i with
        | zero => simp [seek, below, e]
        | succ i => simp [seek, below, e]⟩
      by_cases hgo : h = h0 ∧ at_ s p i = true
      · obtain ⟨heq, hy⟩ := hgo
        obtain rfl := heq.symm
        have hyes : ((strOfNums (s.drop i)).toList == (strOfNums p).toList) = true := by rw [← HAT.out]; exact hy
        have HY : Aside0 (lastIx s p = (i : Int)) := ⟨by rw [HLA.out, seek_yes hy]⟩
        clear hy
        go_wp2_with fail
        go_quiet (fail)
        go_wp2_with fail
        go_ret
        exact ⟨by simp [HY.out, hw1], (by first | exact ⟨_, rfl⟩ | exact ⟨_, World.drewN_drewN _ _ _⟩)⟩
      · have hno : at_ s p i = false := by
          by_cases e : at_ s p i = true
          · refine absurd ⟨?_, e⟩ hgo
            rw [HE.out, HH0.out]
            have : s.drop i = p := by
              unfold at_ at e
              rw [List.take_of_length_le (by have := Hn.out; have := HHD.out; omega)] at e
              exact beq_iff_eq.1 e
            rw [this]
          · simpa using e
        have hnos : ((strOfNums (s.drop i)).toList == (strOfNums p).toList) = false := by rw [← HAT.out]; exact hno
        have HNO : Aside0 (lastIx s p = below s p i) := ⟨HNEXT.out hno⟩
        have HE2 : Aside0 (h = hx ((s.drop i).take n) % 4294967296) := ⟨by rw [List.take_of_length_le (by have := HHD.out; omega)]; exact HE.out⟩
        clear hgo hno HE HNEXT HAT HLA
        rcases (show h = h0 ∨ h ≠ h0 from Classical.em _) with heq | heq
        · obtain rfl := heq.symm
          go_wp2_with fail
          go_quiet (fail)
          go_wp2_with fail
          clear hcut12 hcv1 hnos k3 k4
          go_loopw [9, 11] (fun v9 v11 wr => ∃ (j : Nat) (h : Int), v9 = .int .u32 h ∧ v11 = .int .i64 ((j : Int) - 1) ∧ Aside0 (j ≤ i) ∧ Aside0 (h = hx ((s.drop j).take n) % 4294967296) ∧ Aside0 (lastIx s p = below s p j) ∧ Aside0 (Drawn0 w wr)) (fun _ v11 _ => (intOf v11 + 1).toNat)
          case atStart => exact ⟨i, _, rfl, by rw [hw4], ⟨Nat.le_refl _⟩, HE2, HNO, ⟨(by first | exact ⟨_, rfl⟩ | exact ⟨_, World.drewN_drewN _ _ _⟩)⟩⟩
          case round =>
            clear HE2 HNO hw4
            obtain ⟨j, h, rfl, rfl, HJ, HE, HNO, HD⟩ := hrel
            obtain ⟨m2, rfl⟩ := HD.out
            cases j with
            | zero =>
              have HF : Aside0 (lastIx s p = -1) := ⟨HNO.out⟩
              go_wp2_with fail
              go_ret
              exact ⟨by simp [HF.out], (by first | exact ⟨_, rfl⟩ | exact ⟨_, World.drewN_drewN _ _ _⟩)⟩
            | succ j =>
              have hjn : j + n < s.length := by have := HJ.out; have := HL.out; have := HN.out; omega
              have hj : j < s.length := by omega
              have hw5 : wrap64 ((j : Int) + (n : Int)) = (j : Int) + (n : Int) := by have := HL.out; have := HN.out; unfold wrap64; omega
              have hw6 : wrap64 ((j : Int) - 1) = (j : Int) - 1 := by have := HL.out; have := HN.out; unfold wrap64; omega
              have e0 : ((j + 1 : Nat) : Int) - 1 = (j : Int) := by omega
              obtain ⟨ad, ead, cad⟩ := Kd.at_int HR0n.out (j : Int) (by omega) (by have := HN.out; omega)
              obtain ⟨ad2, ead2, cad2⟩ := Kd.at_int HR0n.out ((j : Int) + (n : Int)) (by omega) (by have := HN.out; omega)
              rw [rd_at s j hj] at cad
              rw [show ((j : Int) + (n : Int)) = ((j + n : Nat) : Int) by omega, rd_at s (j + n) hjn] at cad2
              obtain ⟨x, hx1⟩ : ∃ x, x = s[j] := ⟨_, rfl⟩
              obtain ⟨y, hy1⟩ : ∃ y, y = s[j + n] := ⟨_, rfl⟩
              rw [← hx1, Int.toNat_natCast] at cad
              rw [← hy1, Int.toNat_natCast] at cad2
              have hb := HS.out s[j] (List.getElem_mem _)
              have hb2 := HS.out s[j + n] (List.getElem_mem _)
              rw [← hx1] at hb
              rw [← hy1] at hb2
              obtain ⟨i012, hi012, _, hsz12, _⟩ := info_parts info5
              obtain ⟨A13, hcut13, hA13, hC13⟩ := print_mid_of (P := Tryd.prog) (Value.int .u8) 0 43 5 .i64 .i64 Tryd.underlying43 hi012 hsz12 A0 c0 s (j : Int) ((j : Int) + (n : Int)) (by omega) (by omega) (by omega) HC0.out
              have hr3 := Kd.C_of_reads (h1 := fun _ => rfl) (hA13 _ (Kd.reads_of_C (by rw [HN.out] at HR0n; exact HR0n.out)))
              have hseg : ((s.take (j + n)).drop j).length = n := by rw [List.length_drop, List.length_take]; omega
              have hsame : (s.take (j + n)).drop j = (s.drop j).take n := by rw [List.drop_take]; congr 1; omega
              rw [Int.toNat_natCast, show ((j : Int) + (n : Int)).toNat = j + n by omega, hseg] at hcut13 hr3
              rw [hsame] at hr3
              have hcv3 := fun m : Nat => Kd.C_string (P := Tryd.prog) (c := (c0 - j)) Tryd.underlying43 Tryd.underlying5 Tryd.underlying9 (Kd.C_drewN hr3 m)
              rw [← HN.out] at hcut13
              have hat : at_ s p j = ((strOfNums ((s.drop j).take n)).toList == (strOfNums p).toList) := by
                rw [str_eq ((HS.out.drop j).take n) HP.out]
                unfold at_
                rw [Hn.out]
              have HAT := Aside0.mk hat
              have k1 : decide ((0 : Int) ≤ (j : Int)) = true := decide_eq_true (by omega)
              have k3 : (0 : Int) ≤ (j : Int) := by omega
              have k4 : (j : Int) < (N : Int) := by have := HN.out; omega
              have k5 : (0 : Int) ≤ (j : Int) + (n : Int) := by omega
              have k6 : (j : Int) + (n : Int) < (N : Int) := by have := HN.out; omega
              have k7 : (j : Int) + (n : Int) ≤ (N : Int) := by omega
              have k8 : (j : Int) ≤ (j : Int) + (n : Int) := by omega
              have hto : ((j : Int) + (n : Int)).toNat = j + n := by omega
              have HNX : Aside0 (at_ s p j = false → lastIx s p = below s p j) := ⟨fun e => by
                rw [HNO.out]
                cases j with
                | zero => simp [seek, below, e]
                | succ j => simp [seek, below, e]⟩
              have HYX : Aside0 (at_ s p j = true → lastIx s p = (j : Int)) := ⟨fun e => by rw [HNO.out]; exact seek_yes e⟩
              have HJ2 : Aside0 (j ≤ i) := ⟨by have := HJ.out; omega⟩
              cases A0 with
              | none => cases ead
              | some ad' =>
              obtain rfl : ad' = ad := by injection ead
              obtain rfl : ad' = ad2 := by injection ead2
              have hm : x % 4294967296 = x := by omega
              have hm2 : y % 4294967296 = y := by omega
              obtain ⟨a1, e1⟩ : ∃ a1, h * 16777619 % 4294967296 = a1 := ⟨_, rfl⟩
              obtain ⟨a2, e2⟩ : ∃ a2, (a1 + x) % 4294967296 = a2 := ⟨_, rfl⟩
              obtain ⟨a3, e3⟩ : ∃ a3, q0 * y % 4294967296 = a3 := ⟨_, rfl⟩
              obtain ⟨h', e4⟩ : ∃ h', (a2 - a3) % 4294967296 = h' := ⟨_, rfl⟩
              have HE2 : Aside0 (h' = hx ((s.drop j).take n) % 4294967296) := ⟨by
                have hr := roll x y h q0 ((s.drop (j + 1)).take (n - 1)) n (by rw [List.length_take, List.length_drop]; have := HL.out; omega) (by rw [HE.out, win_snoc s j n (by have := HL.out; omega) hjn, hy1]) (by rw [HQ0.out, ← Hn.out]) hb2 hb
                rw [hm, hm2, e1, e2, e3, e4] at hr
                rw [hr, win_cons s j n (by have := HL.out; omega) hjn, hx1]⟩
              clear ead ead2 hA13 hC13 hi012 hsz12 hr3 hseg hsame hat hx1 hy1 hb hb2 hj hjn HNO HE HJ
              rw [e0]
              by_cases hgo : h' = h0 ∧ at_ s p j = true
              · obtain ⟨rfl, hy⟩ := hgo
                have hyes : ((strOfNums ((s.drop j).take n)).toList == (strOfNums p).toList) = true := by rw [← HAT.out]; exact hy
                have HY : Aside0 (lastIx s p = (j : Int)) := ⟨HYX.out hy⟩
                clear hy
                go_wp2_with fail
                go_quiet (fail)
                go_wp2_with fail
                go_ret
                exact ⟨by simp [HY.out, hw1], (by first | exact ⟨_, rfl⟩ | exact ⟨_, World.drewN_drewN _ _ _⟩)⟩
              · have hno : at_ s p j = false := by
                  by_cases e : at_ s p j = true
                  · refine absurd ⟨?_, e⟩ hgo
                    rw [HE2.out, HH0.out]
                    have : (s.drop j).take n = p := by
                      unfold at_ at e
                      rw [← Hn.out] at e
                      exact beq_iff_eq.1 e
                    rw [this]
                  · simpa using e
                have hnos : ((strOfNums ((s.drop j).take n)).toList == (strOfNums p).toList) = false := by rw [← HAT.out]; exact hno
                have HNO : Aside0 (lastIx s p = below s p j) := ⟨HNX.out hno⟩
                clear hgo hno HNX HYX HAT
                rcases (show h' = h0 ∨ h' ≠ h0 from Classical.em _) with heq2 | heq2
                all_goals first | (have kne2 : (h' == h0) = true := beq_iff_eq.2 heq2; have kne3 : (h' = h0) = True := eq_true heq2; clear heq2) | (have kne2 : (h' == h0) = false := beq_eq_false_iff_ne.2 heq2; have kne3 : (h' = h0) = False := eq_false heq2; clear heq2)
                all_goals go_wp2_with fail
                all_goals go_quiet (fail)
                all_goals go_wp2_with fail
                all_goals go_roundw
                all_goals first | exact ⟨j, _, rfl, by rw [hw6], HJ2, HE2, HNO, ⟨by first | exact ⟨_, rfl⟩ | exact ⟨_, World.drewN_drewN _ _ _⟩⟩⟩ | exact ⟨j, _, rfl, by rw [hw6], HJ2, ⟨by rw [e4]; exact HE2.out⟩, HNO, ⟨by first | exact ⟨_, rfl⟩ | exact ⟨_, World.drewN_drewN _ _ _⟩⟩⟩ | (clear e1 e2 e3 e4 hm hm2; rw [hw6]; simp [intOf]; done) | (clear e1 e2 e3 e4 hm hm2; rw [hw6]; simp [intOf]; omega)
        · have kne : (h == h0) = false := beq_eq_false_iff_ne.2 heq
          go_wp2_with fail
          go_quiet (fail)
          go_wp2_with fail
          clear hcut12 hcv1 hnos k3 k4
          go_loopw [9, 11] (fun v9 v11 wr => ∃ (j : Nat) (h : Int), v9 = .int .u32 h ∧ v11 = .int .i64 ((j : Int) - 1) ∧ Aside0 (j ≤ i) ∧ Aside0 (h = hx ((s.drop j).take n) % 4294967296) ∧ Aside0 (lastIx s p = below s p j) ∧ Aside0 (Drawn0 w wr)) (fun _ v11 _ => (intOf v11 + 1).toNat)
          case atStart => exact ⟨i, _, rfl, by rw [hw4], ⟨Nat.le_refl _⟩, HE2, HNO, ⟨(by first | exact ⟨_, rfl⟩ | exact ⟨_, World.drewN_drewN _ _ _⟩)⟩⟩
          case round =>
            clear HE2 HNO hw4
            obtain ⟨j, h, rfl, rfl, HJ, HE, HNO, HD⟩ := hrel
            obtain ⟨m2, rfl⟩ := HD.out
            cases j with
            | zero =>
              have HF : Aside0 (lastIx s p = -1) := ⟨HNO.out⟩
              go_wp2_with fail
              go_ret
              exact ⟨by simp [HF.out], (by first | exact ⟨_, rfl⟩ | exact ⟨_, World.drewN_drewN _ _ _⟩)⟩
            | succ j =>
              have hjn : j + n < s.length := by have := HJ.out; have := HL.out; have := HN.out; omega
              have hj : j < s.length := by omega
              have hw5 : wrap64 ((j : Int) + (n : Int)) = (j : Int) + (n : Int) := by have := HL.out; have := HN.out; unfold wrap64; omega
              have hw6 : wrap64 ((j : Int) - 1) = (j : Int) - 1 := by have := HL.out; have := HN.out; unfold wrap64; omega
              have e0 : ((j + 1 : Nat) : Int) - 1 = (j : Int) := by omega
              obtain ⟨ad, ead, cad⟩ := Kd.at_int HR0n.out (j : Int) (by omega) (by have := HN.out; omega)
              obtain ⟨ad2, ead2, cad2⟩ := Kd.at_int HR0n.out ((j : Int) + (n : Int)) (by omega) (by have := HN.out; omega)
              rw [rd_at s j hj] at cad
              rw [show ((j : Int) + (n : Int)) = ((j + n : Nat) : Int) by omega, rd_at s (j + n) hjn] at cad2
              obtain ⟨x, hx1⟩ : ∃ x, x = s[j] := ⟨_, rfl⟩
              obtain ⟨y, hy1⟩ : ∃ y, y = s[j + n] := ⟨_, rfl⟩
              rw [← hx1, Int.toNat_natCast] at cad
              rw [← hy1, Int.toNat_natCast] at cad2
              have hb := HS.out s[j] (List.getElem_mem _)
              have hb2 := HS.out s[j + n] (List.getElem_mem _)
              rw [← hx1] at hb
              rw [← hy1] at hb2
              obtain ⟨i012, hi012, _, hsz12, _⟩ := info_parts info5
              obtain ⟨A13, hcut13, hA13, hC13⟩ := print_mid_of (P := Tryd.prog) (Value.int .u8) 0 43 5 .i64 .i64 Tryd.underlying43 hi012 hsz12 A0 c0 s (j : Int) ((j : Int) + (n : Int)) (by omega) (by omega) (by omega) HC0.out
              have hr3 := Kd.C_of_reads (h1 := fun _ => rfl) (hA13 _ (Kd.reads_of_C (by rw [HN.out] at HR0n; exact HR0n.out)))
              have hseg : ((s.take (j + n)).drop j).length = n := by rw [List.length_drop, List.length_take]; omega
              have hsame : (s.take (j + n)).drop j = (s.drop j).take n := by rw [List.drop_take]; congr 1; omega
              rw [Int.toNat_natCast, show ((j : Int) + (n : Int)).toNat = j + n by omega, hseg] at hcut13 hr3
              rw [hsame] at hr3
              have hcv3 := fun m : Nat => Kd.C_string (P := Tryd.prog) (c := (c0 - j)) Tryd.underlying43 Tryd.underlying5 Tryd.underlying9 (Kd.C_drewN hr3 m)
              rw [← HN.out] at hcut13
              have hat : at_ s p j = ((strOfNums ((s.drop j).take n)).toList == (strOfNums p).toList) := by
                rw [str_eq ((HS.out.drop j).take n) HP.out]
                unfold at_
                rw [Hn.out]
              have HAT := Aside0.mk hat
              have k1 : decide ((0 : Int) ≤ (j : Int)) = true := decide_eq_true (by omega)
              have k3 : (0 : Int) ≤ (j : Int) := by omega
              have k4 : (j : Int) < (N : Int) := by have := HN.out; omega
              have k5 : (0 : Int) ≤ (j : Int) + (n : Int) := by omega
              have k6 : (j : Int) + (n : Int) < (N : Int) := by have := HN.out; omega
              have k7 : (j : Int) + (n : Int) ≤ (N : Int) := by omega
              have k8 : (j : Int) ≤ (j : Int) + (n : Int) := by omega
              have hto : ((j : Int) + (n : Int)).toNat = j + n := by omega
              have HNX : Aside0 (at_ s p j = false → lastIx s p = below s p j) := ⟨fun e => by
                rw [HNO.out]
                cases j with
                | zero => simp [seek, below, e]
                | succ j => simp [seek, below, e]⟩
              have HYX : Aside0 (at_ s p j = true → lastIx s p = (j : Int)) := ⟨fun e => by rw [HNO.out]; exact seek_yes e⟩
              have HJ2 : Aside0 (j ≤ i) := ⟨by have := HJ.out; omega⟩
              cases A0 with
              | none => cases ead
              | some ad' =>
              obtain rfl : ad' = ad := by injection ead
              obtain rfl : ad' = ad2 := by injection ead2
              have hm : x % 4294967296 = x := by omega
              have hm2 : y % 4294967296 = y := by omega
              obtain ⟨a1, e1⟩ : ∃ a1, h * 16777619 % 4294967296 = a1 := ⟨_, rfl⟩
              obtain ⟨a2, e2⟩ : ∃ a2, (a1 + x) % 4294967296 = a2 := ⟨_, rfl⟩
              obtain ⟨a3, e3⟩ : ∃ a3, q0 * y % 4294967296 = a3 := ⟨_, rfl⟩
              obtain ⟨h', e4⟩ : ∃ h', (a2 - a3) % 4294967296 = h' := ⟨_, rfl⟩
              have HE2 : Aside0 (h' = hx ((s.drop j).take n) % 4294967296) := ⟨by
                have hr := roll x y h q0 ((s.drop (j + 1)).take (n - 1)) n (by rw [List.length_take, List.length_drop]; have := HL.out; omega) (by rw [HE.out, win_snoc s j n (by have := HL.out; omega) hjn, hy1]) (by rw [HQ0.out, ← Hn.out]) hb2 hb
                rw [hm, hm2, e1, e2, e3, e4] at hr
                rw [hr, win_cons s j n (by have := HL.out; omega) hjn, hx1]⟩
              clear ead ead2 hA13 hC13 hi012 hsz12 hr3 hseg hsame hat hx1 hy1 hb hb2 hj hjn HNO HE HJ
              rw [e0]
              by_cases hgo : h' = h0 ∧ at_ s p j = true
              · obtain ⟨rfl, hy⟩ := hgo
                have hyes : ((strOfNums ((s.drop j).take n)).toList == (strOfNums p).toList) = true := by rw [← HAT.out]; exact hy
                have HY : Aside0 (lastIx s p = (j : Int)) := ⟨HYX.out hy⟩
                clear hy
                go_wp2_with fail
                go_quiet (fail)
                go_wp2_with fail
                go_ret
                exact ⟨by simp [HY.out, hw1], (by first | exact ⟨_, rfl⟩ | exact ⟨_, World.drewN_drewN _ _ _⟩)⟩
              · have hno : at_ s p j = false := by
                  by_cases e : at_ s p j = true
                  · refine absurd ⟨?_, e⟩ hgo
                    rw [HE2.out, HH0.out]
                    have : (s.drop j).take n = p := by
                      unfold at_ at e
                      rw [← Hn.out] at e
                      exact beq_iff_eq.1 e
                    rw [this]
                  · simpa using e
                have hnos : ((strOfNums ((s.drop j).take n)).toList == (strOfNums p).toList) = false := by rw [← HAT.out]; exact hno
                have HNO : Aside0 (lastIx s p = below s p j) := ⟨HNX.out hno⟩
                clear hgo hno HNX HYX HAT
                rcases (show h' = h0 ∨ h' ≠ h0 from Classical.em _) with heq2 | heq2
                all_goals first | (have kne2 : (h' == h0) = true := beq_iff_eq.2 heq2; have kne3 : (h' = h0) = True := eq_true heq2; clear heq2) | (have kne2 : (h' == h0) = false := beq_eq_false_iff_ne.2 heq2; have kne3 : (h' = h0) = False := eq_false heq2; clear heq2)
                all_goals go_wp2_with fail
                all_goals go_quiet (fail)
                all_goals go_wp2_with fail
                all_goals go_roundw
                all_goals first | exact ⟨j, _, rfl, by rw [hw6], HJ2, HE2, HNO, ⟨by first | exact ⟨_, rfl⟩ | exact ⟨_, World.drewN_drewN _ _ _⟩⟩⟩ | exact ⟨j, _, rfl, by rw [hw6], HJ2, ⟨by rw [e4]; exact HE2.out⟩, HNO, ⟨by first | exact ⟨_, rfl⟩ | exact ⟨_, World.drewN_drewN _ _ _⟩⟩⟩ | (clear e1 e2 e3 e4 hm hm2; rw [hw6]; simp [intOf]; done) | (clear e1 e2 e3 e4 hm hm2; rw [hw6]; simp [intOf]; omega)
/-- bytes.LastIndex: the last place of p in s. -/
theorem li_calls (w : World) (A0 A1 : Option Addr) (c0 c1 : Nat) (s p : List Int) (hr0 : Kd.C (Kd.int .u8) w A0 s.length s) (hc0 : s.length ≤ c0) (hr1 : Kd.C (Kd.int .u8) w A1 p.length p) (hc1 : p.length ≤ c1)
    (hs : By s) (hp : By p) (h1 : 1 ≤ p.length) (hl : s.length ≤ 2147483647) (hl2 : p.length ≤ 2147483647) :
    Calls Tryd.prog 31 #[.slice A0 s.length c0, .slice A1 p.length c1] w fun e w' => e = .returned (.int .i64 (lastIx s p)) ∧ Drawn0 w w' := by
  have HR0 := Aside0.mk hr0
  have HR1 := Aside0.mk hr1
  have HC0 := Aside0.mk hc0
  have HC1 := Aside0.mk hc1
  have HS := Aside0.mk hs
  have HP := Aside0.mk hp
  obtain ⟨N, hN⟩ : ∃ N, N = s.length := ⟨_, rfl⟩
  obtain ⟨n, hn⟩ : ∃ n, n = p.length := ⟨_, rfl⟩
  have HN := Aside0.mk hN
  have Hn := Aside0.mk hn
  have HH1 := Aside0.mk h1
  have HL := Aside0.mk hl
  have k0 : ((n : Int) == 0) = false := beq_eq_false_iff_ne.2 (by omega)
  have k0' : (n == 0) = false := beq_eq_false_iff_ne.2 (by omega)
  rcases (show n = 1 ∨ (n ≠ 1 ∧ n = N) ∨ (n ≠ 1 ∧ n ≠ N ∧ N < n) ∨ (n ≠ 1 ∧ n ≠ N ∧ ¬ N < n ∧ n < N) by omega) with c | ⟨c, c2⟩ | ⟨c, c2, c3⟩ | ⟨c, c2, c3, c4⟩
  · obtain ⟨b, rfl⟩ : ∃ b, p = [b] := by
      cases p with
      | nil => simp at hn; omega
      | cons b t => cases t with
        | nil => exact ⟨b, rfl⟩
        | cons _ _ => simp at hn; omega
    obtain ⟨K, hK⟩ := byte_ev s b hl
    have hh := bytealg_LastIndexByte.calls K A0 c0 s b _ w hr0 hc0 (hK K (Nat.le_refl _))
    have HH := Aside0.mk hh
    obtain ⟨ad, ead, cad⟩ := Kd.at_int HR1.out 0 (by omega) (by simp)
    rw [show ([b] : List Int).length = 1 from rfl] at *
    cases A1 with
    | none => cases ead
    | some ad' =>
    obtain rfl : ad' = ad := by injection ead
    have cad2 : w.cell? ad' = some (.int .u8 b) := by
      have : ad'.add (0 : Int).toNat = ad' := by unfold Addr.add; cases ad' with | mk x y z => cases z <;> simp
      rw [this] at cad
      simpa [Go.Proofs.YthecfligfhpccaaDoorW.PrintWords.rd] using cad
    clear hh hr0 hr1 hc0 hc1 hs hp h1 hl hl2 hN hn ead cad c k0 k0'
    go_enter Tryd.func31, Tryd.ntmps31
    go_wp2_with (go_at_call 36; refine HH.out.mono ?_; rintro e w1 ⟨rfl, hd1⟩; have HD1 := Aside0.mk hd1; clear hd1)
    go_ret
    exact ⟨rfl, HD1.out⟩
  · have hh := bytes_Equal.calls A0 c0 s A1 c1 p _ w hr0 hc0 hr1 hc1 rfl
    rw [str_eq hs hp] at hh
    have k1 : ((n : Int) == 1) = false := beq_eq_false_iff_ne.2 (by omega)
    have k1' : (n == 1) = false := beq_eq_false_iff_ne.2 c
    have hlast : lastIx s p = if (s == p) = true then 0 else -1 := by
      unfold lastIx
      rw [if_neg (by omega), show s.length - p.length = 0 by omega]
      unfold seek at_
      rw [List.drop_zero, List.take_of_length_le (by omega)]
    have kN : ((N : Int) == 0) = false := beq_eq_false_iff_ne.2 (by omega)
    have kN' : (N == 0) = false := beq_eq_false_iff_ne.2 (by omega)
    have kM : ((N : Int) == 1) = false := beq_eq_false_iff_ne.2 (by omega)
    have kM' : (N == 1) = false := beq_eq_false_iff_ne.2 (by omega)
    rw [← hN, ← hn, c2] at hh
    rw [← hN, ← hn, c2]
    obtain ⟨q, hq⟩ : ∃ q, (s == p) = q := ⟨_, rfl⟩
    rw [hq] at hlast hh
    have HLA := Aside0.mk hlast
    have HH := Aside0.mk hh
    clear hh hr0 hr1 hc0 hc1 hs hp h1 hl hl2 hN hn c hlast hq k0 k0' k1 k1' c2
    cases q with
    | true =>
      go_enter Tryd.func31, Tryd.ntmps31
      go_wp2_with (go_at_call 37; refine HH.out.mono ?_; rintro e w1 ⟨rfl, hd1⟩; have HD1 := Aside0.mk hd1; clear hd1)
      go_ret
      exact ⟨by rw [HLA.out]; rfl, HD1.out⟩
    | false =>
      go_enter Tryd.func31, Tryd.ntmps31
      go_wp2_with (go_at_call 37; refine HH.out.mono ?_; rintro e w1 ⟨rfl, hd1⟩; have HD1 := Aside0.mk hd1; clear hd1)
      go_ret
      exact ⟨by rw [HLA.out]; rfl, HD1.out⟩
  · have k1 : ((n : Int) == 1) = false := beq_eq_false_iff_ne.2 (by omega)
    have k1' : (n == 1) = false := beq_eq_false_iff_ne.2 c
    have k2 : ((n : Int) == (N : Int)) = false := beq_eq_false_iff_ne.2 (by omega)
    have k2' : (n == N) = false := beq_eq_false_iff_ne.2 c2
    have k3 : decide (N < n) = true := decide_eq_true c3
    have k3' : decide ((N : Int) < (n : Int)) = true := decide_eq_true (by omega)
    have hlast : lastIx s p = -1 := by unfold lastIx; rw [if_pos (by omega)]
    have HLA := Aside0.mk hlast
    rw [← hN, ← hn]
    clear hr0 hr1 hc0 hc1 hs hp h1 hl hl2 hN hn hlast
    go_enter Tryd.func31, Tryd.ntmps31
    go_wp2_with fail
    go_ret
    exact ⟨by simp [HLA.out], ⟨0, rfl⟩⟩
  · have hh := rk_calls w A0 A1 c0 c1 s p hr0 hc0 hr1 hc1 hs hp h1 (by omega) hl
    have k1 : ((n : Int) == 1) = false := beq_eq_false_iff_ne.2 (by omega)
    have k1' : (n == 1) = false := beq_eq_false_iff_ne.2 c
    have k2 : ((n : Int) == (N : Int)) = false := beq_eq_false_iff_ne.2 (by omega)
    have k2' : (n == N) = false := beq_eq_false_iff_ne.2 c2
    have k3 : decide (N < n) = false := decide_eq_false c3
    have k3' : decide ((N : Int) < (n : Int)) = false := decide_eq_false (by omega)
    rw [← hN, ← hn] at hh
    have HH := Aside0.mk hh
    rw [← hN, ← hn]
    clear hh hr0 hr1 hc0 hc1 hs hp h1 hl hl2 hN hn
    go_enter Tryd.func31, Tryd.ntmps31
    go_wp2_with (go_at_call 38; refine HH.out.mono ?_; rintro e w1 ⟨rfl, hd1⟩; have HD1 := Aside0.mk hd1; clear hd1)
    go_ret
    exact ⟨rfl, HD1.out⟩
end Go.Proofs.YthecfligfhpccaaDoor.Li
namespace Go.Proofs.YthecfligfhpccaaDoor.Gn
open Go.RowKit Go.Instr
section
variable {α : Type}
/-- Block r is a map with these keys and values, each entry laid at a time of its own, ahead of now. -/
def MapB (w : World) (r : Nat) (enc : α → Value) (S : List (α × Value)) : Prop :=
  ∃ es c, w.heap[r]? = some (.map es c) ∧ es.toList.map kv = S.map (fun p => (enc p.1, p.2)) ∧ (∀ x ∈ es.toList, x.born < c) ∧ (es.toList.map (·.born)).Nodup
theorem MapB.at {w : World} {r : Nat} {enc : α → Value} {S : List (α × Value)} (h : MapB w r enc S) : MapAt w r enc S := by
  obtain ⟨es, c, h1, h2, _⟩ := h
  exact ⟨es, c, h1, h2⟩
theorem MapB.lt {w : World} {r : Nat} {enc : α → Value} {S : List (α × Value)} (h : MapB w r enc S) : r < w.heap.size := h.at.lt
theorem MapB.chg {T : List Nat} {w w' : World} {r : Nat} {enc : α → Value} {S : List (α × Value)} (h : MapB w r enc S) (hc : Chg T w w') (hs : r ∉ T) : MapB w' r enc S := by
  obtain ⟨es, c, h1, h2⟩ := h
  exact ⟨es, c, (hc.block r (Array.getElem?_eq_some_iff.1 h1).1 hs).trans h1, h2⟩
theorem MapB.new (w : World) (enc : α → Value) : MapB (w.alloc (.map #[] 0)) w.heap.size enc [] := ⟨#[], 0, heap_alloc_new _ _, rfl, by simp, by simp⟩
variable [DecidableEq α]
theorem run_mapUpdateB {P : Program} {w : World} {r : Nat} {enc : α → Value} {S : List (α × Value)} (h : MapB w r enc S) {t kt et : TypeId} (K : KeyOk P kt enc) (ht : P.underlying t = some (.map kt et)) (k : α) (v : Value) :
    ∃ w', (mapUpdate t (.map (some r)) (enc k) v).run P w = .ok () w' ∧ MapB w' r enc (putL S k v) ∧ Chg [r] w w' ∧ w'.heap.size = w.heap.size := by
  obtain ⟨es, c, h1, h2, hb1, hb2⟩ := h
  obtain ⟨d, hd1, hd2⟩ := K.same
  obtain ⟨f, f1, f2⟩ := find_spec (P := P) (kt := kt) hd2 k v es.toList S 0 h2
  have hlt := (Array.getElem?_eq_some_iff.1 h1).1
  have hgo : (getObj r).run P w = .ok (.map es c) w := by simp [getObj, Sem.run, h1]
  have hset : ∀ o, (setObj r o).run P w = .ok () { w with heap := w.heap.setIfInBounds r o } := fun o => by simp [setObj, Sem.run, h1]
  have hchg : ∀ o, Chg [r] w { w with heap := w.heap.setIfInBounds r o } := fun o => ⟨rfl, rfl, rfl, by simp, fun j hj hs => by
    have : r ≠ j := fun g => hs (by simp [g])
    simp [this]⟩
  cases f with
  | none =>
    refine ⟨{ w with heap := w.heap.setIfInBounds r (.map (es.push { key := enc k, val := v, born := c }) (c + 1)) }, ?_, ⟨es.push { key := enc k, val := v, born := c }, c + 1, by simp [hlt], ?_, ?_, ?_⟩, hchg _, by simp⟩
    · simp [mapUpdate, run_underlying ht, hgo, K.check, findKey, run_underlying hd1, f1, hset]
    · rw [Array.toList_push]
      exact f2.2 c
    · rw [Array.toList_push]
      intro x hx
      rcases List.mem_append.1 hx with hx | hx
      · have := hb1 x hx; omega
      · rw [List.mem_singleton.1 hx]; exact Nat.lt_succ_self _
    · rw [Array.toList_push, List.map_append, List.nodup_append]
      refine ⟨hb2, by simp, ?_⟩
      intro a ha b hb
      obtain ⟨x, hx, rfl⟩ := List.mem_map.1 ha
      have : b = c := by simpa using hb
      have := hb1 x hx
      omega
  | some q =>
    obtain ⟨i, x⟩ := q
    obtain ⟨a1, a2, ⟨e3, a3, a4⟩, a5⟩ := f2
    simp only [Nat.sub_zero] at a3 a5
    have hk : (((es[i]?).map (·.key)).getD (enc k)) = enc k := by
      rw [← Array.getElem?_toList, a3]
      simpa using a4
    have hst : (keyThatStays (enc k) (enc k)).run P w = .ok (enc k) w := by
      unfold keyThatStays
      rw [if_pos (K.bits k)]
      rfl
    have hborn : (es.modify i (fun e : MapEntry => { e with key := enc k, val := v })).toList.map (·.born) = es.toList.map (·.born) := by
      rw [Array.toList_modify]
      apply List.ext_getElem
      · simp
      · intro n h1 h2
        simp only [List.getElem_map, List.getElem_modify]
        split <;> rfl
    refine ⟨{ w with heap := w.heap.setIfInBounds r (.map (es.modify i (fun e : MapEntry => { e with key := enc k, val := v })) c) }, ?_, ⟨_, c, by simp [hlt]; rfl, ?_, ?_, ?_⟩, hchg _, by simp⟩
    · simp [mapUpdate, run_underlying ht, hgo, K.check, findKey, run_underlying hd1, f1, hk, hst, hset]
    · simpa using a5
    · intro y hy
      have : y.born ∈ es.toList.map (·.born) := by rw [← hborn]; exact List.mem_map.2 ⟨y, hy, rfl⟩
      obtain ⟨z, hz, he⟩ := List.mem_map.1 this
      rw [← he]
      exact hb1 z hz
    · rw [hborn]; exact hb2
theorem wpList_mapUpdateB {P : Program} {w : World} {ops : Array Oper} {rest : List Oper} {o : Oper} {a : Act} {Q : Exit → Act → World → Prop} (hgd : o.guard = none) (m x y : Operand) (t : TypeId) (ho : o.op = .mapUpdate t m x y)
    {r : Nat} {enc : α → Value} {S : List (α × Value)} (hm : a.eval m = .map (some r)) (k : α) (hx : a.eval x = enc k) (v : Value) (hy : a.eval y = v) (h : MapB w r enc S) {kt et : TypeId} (K : KeyOk P kt enc) (ht : P.underlying t = some (.map kt et))
    (hK : ∀ w', MapB w' r enc (putL S k v) → Chg [r] w w' → w'.heap.size = w.heap.size → wpList P ops Q rest (a.put o.dst undef) w') :
    wpList P ops Q (o :: rest) a w := by
  refine wpList_plain hgd fun K' hK' => ?_
  obtain ⟨w', hr, h1, h2, h3⟩ := run_mapUpdateB h K ht k v
  unfold Oper.wp
  simp [execOp, ho, hm, hx, hy, hr, Result.andThen]
  exact hK' _ _ (hK w' h1 h2 h3)
end
end Go.Proofs.YthecfligfhpccaaDoor.Gn
namespace Go.Proofs.YthecfligfhpccaaDoor.Gn
open Go.RowKit Go.Instr
section
variable {α : Type}
/-- A round of 'range' over the map r by the iterator it: done are the keys that have come. -/
def Ranged (w : World) (it r : Nat) (enc : α → Value) (S : List (α × Value)) (done : List α) : Prop :=
  ∃ (es : Array MapEntry) (c since : Nat) (seen : Array Nat) (c0 : Nat) (vis : List MapEntry), w.heap[r]? = some (.map es c) ∧ w.heap[it]? = some (.mapIter (some r) since seen c0) ∧ es.toList.map kv = S.map (fun p => (enc p.1, p.2)) ∧ (∀ x ∈ es.toList, x.born < since) ∧ (es.toList.map (·.born)).Nodup ∧ since ≤ c0 ∧ since ≤ c ∧
    (∀ x ∈ vis, x ∈ es.toList) ∧ vis.map (·.born) = seen.toList ∧ (vis.map (·.born)).Nodup ∧ vis.map (·.key) = done.map enc
theorem Ranged.chg {T : List Nat} {w w' : World} {it r : Nat} {enc : α → Value} {S : List (α × Value)} {done : List α} (h : Ranged w it r enc S done) (hc : Chg T w w') (hr : r ∉ T) (hi : it ∉ T) : Ranged w' it r enc S done := by
  obtain ⟨es, c, since, seen, c0, vis, h1, h2, h3⟩ := h
  exact ⟨es, c, since, seen, c0, vis, (hc.block r (Array.getElem?_eq_some_iff.1 h1).1 hr).trans h1, (hc.block it (Array.getElem?_eq_some_iff.1 h2).1 hi).trans h2, h3⟩
theorem find_in (es : Array MapEntry) (seen : Array Nat) (x : MapEntry) : x ∈ (leftOf es seen).toList ↔ x ∈ es.toList ∧ x.born ∉ seen.toList := by
  unfold leftOf
  simp [Array.mem_filter]
theorem nodup_of_map {β γ : Type} (f : β → γ) : ∀ {l : List β}, (l.map f).Nodup → l.Nodup
  | [], _ => List.nodup_nil
  | x :: l, h => by
    rw [List.map_cons, List.nodup_cons] at h
    exact List.nodup_cons.2 ⟨fun hx => h.1 (List.mem_map.2 ⟨x, hx, rfl⟩), nodup_of_map f h.2⟩
theorem inj_of_nodup {β γ : Type} (f : β → γ) : ∀ {l : List β}, (l.map f).Nodup → ∀ {x y : β}, x ∈ l → y ∈ l → f x = f y → x = y
  | [], _, _, _, hx, _, _ => by cases hx
  | z :: l, h, x, y, hx, hy, e => by
    rw [List.map_cons, List.nodup_cons] at h
    rcases List.mem_cons.1 hx with hx2 | hx2
    · rcases List.mem_cons.1 hy with hy2 | hy2
      · rw [hx2, hy2]
      · exact absurd (List.mem_map.2 ⟨y, hy2, by rw [← e, hx2]⟩) h.1
    · rcases List.mem_cons.1 hy with hy2 | hy2
      · exact absurd (List.mem_map.2 ⟨x, hx2, by rw [e, hy2]⟩) h.1
      · exact inj_of_nodup f h.2 hx2 hy2 e
theorem nodup_len : ∀ {l m : List Nat}, l.Nodup → (∀ x ∈ l, x ∈ m) → l.length ≤ m.length
  | [], _, _, _ => Nat.zero_le _
  | x :: l, m, h, hs => by
    rw [List.nodup_cons] at h
    have h1 := nodup_len (m := m.erase x) h.2 (fun y hy => (List.mem_erase_of_ne (fun e => h.1 (by rw [← e]; exact hy))).2 (hs y (List.mem_cons_of_mem _ hy)))
    have h2 := List.length_erase_of_mem (hs x List.mem_cons_self)
    have h3 : 0 < m.length := List.length_pos_of_mem (hs x List.mem_cons_self)
    rw [List.length_cons]
    omega
/-- The next round: nothing is left, all keys have come; or one more key comes. -/
theorem Ranged.next {P : Program} {w : World} {it r : Nat} {enc : α → Value} {S : List (α × Value)} {done : List α} (h : Ranged w it r enc S done) (hne : it ≠ r) (ty : TypeId) :
    ((Instr.next (.pointer (some ⟨it, 0, none⟩)) false ty).run P w = .ok (.tuple #[.bool false]) w ∧ (done.map enc).Perm (S.map (fun p => enc p.1))) ∨
    ∃ (k : α) (v : Value) (w' : World), (k, v) ∈ S ∧ (Instr.next (.pointer (some ⟨it, 0, none⟩)) false ty).run P w = .ok (.tuple #[.bool true, enc k, v]) w' ∧ Ranged w' it r enc S (done ++ [k]) ∧ Chg [it] w w' ∧ w'.heap.size = w.heap.size ∧ done.length < S.length ∧
      (Instr.entry (.pointer (some ⟨it, 0, none⟩))).run P w' = .ok (.tuple #[enc k, v]) w' := by
  obtain ⟨es, c, since, seen, c0, vis, h1, h2, h3, h4, h5, h6, h7, h8, h9, h10, h11⟩ := h
  have hsub : ∀ {l : List MapEntry}, (∀ x ∈ l, x ∈ es.toList) → (l.map (·.born)).Nodup → (∀ x ∈ es.toList, x.born ∈ l.map (·.born)) → l.Perm es.toList := by
    intro l a b d
    refine (List.perm_ext_iff_of_nodup (nodup_of_map _ b) (nodup_of_map _ h5)).2 (fun x => ⟨a x, fun hx => ?_⟩)
    obtain ⟨y, hy, e⟩ := List.mem_map.1 (d x hx)
    have : y = x := inj_of_nodup _ h5 (a y hy) hx e
    rw [← this]; exact hy
  rcases run_next_at w ty it r since c0 seen es c h2 h1 h4 h6 with ⟨h0, hrun⟩ | ⟨e, he, w1, hw1, hrun⟩
  · refine .inl ⟨hrun, ?_⟩
    have hp := hsub h8 h10 (fun x hx => by
      rw [h9]
      by_cases g : x.born ∈ seen.toList
      · exact g
      · have := (find_in es seen x).2 ⟨hx, g⟩
        have h00 : (leftOf es seen).toList.length = 0 := by simpa using h0
        rw [List.length_eq_zero_iff.1 h00] at this
        cases this)
    have := hp.map (·.key)
    rw [h11] at this
    have h12 : es.toList.map (·.key) = S.map (fun p => enc p.1) := by
      have := congrArg (List.map Prod.fst) h3
      rw [List.map_map, List.map_map] at this
      exact this
    rw [h12] at this
    exact this
  · obtain ⟨he1, he2⟩ := (find_in es seen e).1 he
    have hk : kv e ∈ S.map (fun p => (enc p.1, p.2)) := by rw [← h3]; exact List.mem_map.2 ⟨e, he1, rfl⟩
    obtain ⟨⟨k, v⟩, hkm, hke⟩ := List.mem_map.1 hk
    have hke1 : e.key = enc k := (congrArg Prod.fst hke).symm
    have hke2 : e.val = v := (congrArg Prod.snd hke).symm
    rw [hke1, hke2] at hrun
    have hbn : ((vis ++ [e]).map (·.born)).Nodup := by
      rw [List.map_append, List.nodup_append]
      refine ⟨h10, by simp, fun a ha b hb hab => ?_⟩
      have : b = e.born := by simpa using hb
      rw [h9] at ha
      exact he2 (by rw [← this, ← hab]; exact ha)
    have hch : Chg [it] w (Go.ChangeMaps.setBlock w1 it (.mapIter (some r) since (seen.push e.born) c)) := by
      rcases hw1 with rfl | rfl
      · exact ⟨rfl, rfl, rfl, by simp [Go.ChangeMaps.setBlock], fun j hj hs => by
          have : it ≠ j := fun g => hs (by simp [g])
          simp [Go.ChangeMaps.setBlock, this]⟩
      · exact ⟨rfl, rfl, rfl, by simp [Go.ChangeMaps.setBlock], fun j hj hs => by
          have : it ≠ j := fun g => hs (by simp [g])
          have h9 : (w.drew.heap.setIfInBounds it (.mapIter (some r) since (seen.push e.born) c))[j]? = w.drew.heap[j]? := by simp [this]
          exact h9⟩
    have hil := (Array.getElem?_eq_some_iff.1 h2).1
    have hz : (Go.ChangeMaps.setBlock w1 it (.mapIter (some r) since (seen.push e.born) c)).heap.size = w.heap.size := by
      rcases hw1 with rfl | rfl <;> simp [Go.ChangeMaps.setBlock]
    have hit : (Go.ChangeMaps.setBlock w1 it (.mapIter (some r) since (seen.push e.born) c)).heap[it]? = some (.mapIter (some r) since (seen.push e.born) c) := by
      rcases hw1 with rfl | rfl <;> simp [Go.ChangeMaps.setBlock, hil]
    have hr' := (hch.block r (Array.getElem?_eq_some_iff.1 h1).1 (by simpa using fun g : r = it => hne g.symm)).trans h1
    refine .inr ⟨k, v, _, hkm, hrun, ⟨es, c, since, seen.push e.born, c, vis ++ [e], hr', hit, h3, h4, h5, h7, h7, fun x hx => ?_, ?_, hbn, ?_⟩, hch, hz, ?_, ?_⟩
    · rcases List.mem_append.1 hx with hx | hx
      · exact h8 x hx
      · rw [List.mem_singleton.1 hx]; exact he1
    · rw [List.map_append, h9, Array.toList_push]; rfl
    · rw [List.map_append, List.map_append, h11, List.map_cons, List.map_nil, List.map_cons, List.map_nil, hke1]
    · have h12 := nodup_len (m := es.toList.map (·.born)) hbn (fun x hx => by
        obtain ⟨y, hy, rfl⟩ := List.mem_map.1 hx
        refine List.mem_map.2 ⟨y, ?_, rfl⟩
        rcases List.mem_append.1 hy with hy | hy
        · exact h8 y hy
        · rw [List.mem_singleton.1 hy]; exact he1)
      have h13 := congrArg List.length h3
      have h14 := congrArg List.length h11
      simp only [List.length_map, List.length_append, List.length_cons, List.length_nil] at h12 h13 h14
      omega
    · have := run_entry_at (P := P) _ it r since seen es c e hit hr' he1 h5
      rw [hke1, hke2] at this
      exact this
theorem wpList_rangeB {P : Program} {w : World} {ops : Array Oper} {rest : List Oper} {o : Oper} {a : Act} {Q : Exit → Act → World → Prop} (hgd : o.guard = none) (m : Operand) (t : TypeId) (ho : o.op = .range t m)
    {r : Nat} {enc : α → Value} {S : List (α × Value)} (hm : a.eval m = .map (some r)) (h : MapB w r enc S) {kt et : TypeId} (ht : P.underlying t = some (.map kt et))
    (hK : ∀ w', Ranged w' w.heap.size r enc S [] → Chg [] w w' → w'.heap.size = w.heap.size + 1 → wpList P ops Q rest (a.put o.dst (.pointer (some ⟨w.heap.size, 0, none⟩))) w') :
    wpList P ops Q (o :: rest) a w := by
  refine wpList_plain hgd fun K' hK' => ?_
  obtain ⟨es, c, h1, h2, h3, h4⟩ := h
  have hlt := (Array.getElem?_eq_some_iff.1 h1).1
  have hrun := run_range_map (P := P) w t kt et r es c ht h1
  unfold Oper.wp
  simp [execOp, ho, hm, hrun, Result.andThen]
  refine hK' _ _ (hK _ ⟨es, c, c, #[], c, [], (Below.heap_alloc w _ r hlt).trans h1, heap_alloc_new _ _, h2, h3, h4, Nat.le_refl _, Nat.le_refl _, by simp, rfl, List.nodup_nil, rfl⟩ ((Chg.refl [] w).alloc _) (size_alloc _ _))
theorem wpList_nextB {P : Program} {w : World} {ops : Array Oper} {rest : List Oper} {o : Oper} {a : Act} {Q : Exit → Act → World → Prop} (hgd : o.guard = none) (x : Operand) (ho : o.op = .next x false)
    {it r : Nat} {enc : α → Value} {S : List (α × Value)} {done : List α} (hx : a.eval x = .pointer (some ⟨it, 0, none⟩)) (h : Ranged w it r enc S done) (hne : it ≠ r)
    (hD : (done.map enc).Perm (S.map (fun p => enc p.1)) → wpList P ops Q rest (a.put o.dst (.tuple #[.bool false])) w)
    (hK : ∀ (k : α) (v : Value) (w' : World), (k, v) ∈ S → Ranged w' it r enc S (done ++ [k]) → Chg [it] w w' → w'.heap.size = w.heap.size → done.length < S.length →
      (Instr.entry (.pointer (some ⟨it, 0, none⟩))).run P w' = .ok (.tuple #[enc k, v]) w' → wpList P ops Q rest (a.put o.dst (.tuple #[.bool true, enc k, v])) w') :
    wpList P ops Q (o :: rest) a w := by
  refine wpList_plain hgd fun K' hK' => ?_
  unfold Oper.wp
  rcases h.next (P := P) hne o.type with ⟨hr, hp⟩ | ⟨k, v, w', h1, hr, h2, h3, h4, h5, h6⟩
  · simp [execOp, ho, hx, hr, Result.andThen]
    exact hK' _ _ (hD hp)
  · simp [execOp, ho, hx, hr, Result.andThen]
    exact hK' _ _ (hK k v w' h1 h2 h3 h4 h5 h6)
end
end Go.Proofs.YthecfligfhpccaaDoor.Gn
namespace Go.Proofs.YthecfligfhpccaaDoor.Li
open Go.RowKit Go.Proofs.YthecfligfhpccaaDoorW.PrintWords Go.Proofs.YthecfligfhpccaaDoor.Gn
/-- The map's keys hold rows of their own, which are as D says. -/
structure OccW (w wr : World) (r : Nat) (S : List (ByteArray × Value)) (D : List (ByteArray × List Int)) : Prop where
  mp : MapB wr r Value.string S
  keys : S.map (·.1) = D.map (·.1)
  row : ∀ k v, getL S k = some v → ∃ l, getM D k = some l ∧ ORow wr 3 v (l.map (Value.int .i64))
  non : ∀ k, getL S k = none → getM D k = none
  own : ∀ k v, getL S k = some v → ∀ g, v.ownBlock = some g → w.heap.size ≤ g ∧ g ≠ r
  ne : ∀ k k' v v', getL S k = some v → getL S k' = some v' → k ≠ k' → ∀ g, v.ownBlock = some g → v'.ownBlock ≠ some g
  chg : Chg [] w wr
  rge : w.heap.size ≤ r
theorem OccW.start (w : World) : OccW w (w.alloc (.map #[] 0)) w.heap.size [] [] :=
  ⟨MapB.new w _, rfl, fun k v h => by simp [getL] at h, fun k h => rfl, fun k v h => by simp [getL] at h, fun k k' v v' h => by simp [getL] at h, (Chg.refl [] w).alloc _, Nat.le_refl _⟩
theorem OccW.step {w wr w' : World} {r : Nat} {S : List (ByteArray × Value)} {D : List (ByteArray × List Int)} (h : OccW w wr r S D) (hc : Chg [] wr w') : OccW w w' r S D :=
  ⟨h.mp.chg hc (by simp), h.keys, fun k v hk => by obtain ⟨l, h1, h2⟩ := h.row k v hk; exact ⟨l, h1, h2.chg hc (by simp)⟩, h.non, h.own, h.ne, h.chg.trans hc, h.rge⟩
theorem OccW.look {w wr : World} {r : Nat} {S : List (ByteArray × Value)} {D : List (ByteArray × List Int)} (h : OccW w wr r S D) (p : ByteArray) : ORow wr 3 ((getL S p).getD (.slice none 0 0)) (((getM D p).getD []).map (Value.int .i64)) := by
  cases hg : getL S p with
  | none => rw [h.non p hg]; exact ORow.nil _ _
  | some v => obtain ⟨l, h1, h2⟩ := h.row p v hg; rw [h1]; exact h2
theorem putL_keys {γ : Type} : ∀ (S : List (ByteArray × Value)) (E : List (ByteArray × γ)) (k : ByteArray) (v : Value) (u : γ), S.map (·.1) = E.map (·.1) → (putL S k v).map (·.1) = (putM E k u).map (·.1)
  | [], [], _, _, _, _ => rfl
  | [], _ :: _, _, _, _, h => by cases h
  | _ :: _, [], _, _, _, h => by cases h
  | p :: D, q :: E, k, v, u, h => by
    simp only [List.map_cons, List.cons.injEq] at h
    unfold putL putM
    rw [h.1]
    by_cases e : q.1 = k
    · rw [if_pos e, if_pos e]; simp [h.2]
    · rw [if_neg e, if_neg e]; simp [h.1, putL_keys D E k v u h.2]
theorem OccW.add {w wr wa w3 : World} {r : Nat} {S : List (ByteArray × Value)} {D : List (ByteArray × List Int)} (h : OccW w wr r S D) (p : ByteArray) (m : Int) (o : Obj) (v' : Value)
    (hrow : ORow wa 3 v' (((getM D p).getD []).map (Value.int .i64) ++ [.int .i64 m])) (hc : Chg ((getL S p).getD (.slice none 0 0)).ownBlock.toList (wr.alloc o) wa)
    (hown : v'.ownBlock = ((getL S p).getD (.slice none 0 0)).ownBlock ∨ v'.ownBlock = some (wr.alloc o).heap.size) (hm : MapB w3 r Value.string (putL S p v')) (hc3 : Chg [r] wa w3) : OccW w w3 r (putL S p v') (addM D p m) := by
  have hr := h.mp.lt
  have h0 : ∀ g, ((getL S p).getD (.slice none 0 0)).ownBlock = some g → w.heap.size ≤ g ∧ g ≠ r := fun g hg => by
    cases hs : getL S p with
    | none => rw [hs] at hg; cases hg
    | some v => rw [hs] at hg; exact h.own p v hs g hg
  have hz : (wr.alloc o).heap.size = wr.heap.size + 1 := size_alloc _ _
  have hv : ∀ g, v'.ownBlock = some g → w.heap.size ≤ g ∧ g ≠ r := fun g hg => by
    rcases hown with e | e
    · exact h0 g (by rw [← e]; exact hg)
    · rw [hg] at e
      injection e with e
      have := h.chg.size
      exact ⟨by omega, by omega⟩
  have hold : ∀ k v, k ≠ p → getL S k = some v → ∀ g, v.ownBlock = some g → g ∉ ((getL S p).getD (.slice none 0 0)).ownBlock.toList ∧ v'.ownBlock ≠ some g := fun k v hk hs g hg => by
    have h1 : g ∉ ((getL S p).getD (.slice none 0 0)).ownBlock.toList := fun hmem => by
      cases hq : getL S p with
      | none => rw [hq] at hmem; simp [Value.ownBlock] at hmem
      | some u => rw [hq] at hmem; exact h.ne k p v u hs hq hk g hg (by simpa using hmem)
    refine ⟨h1, fun e => ?_⟩
    rcases hown with q | q
    · exact h1 (by rw [← q, e]; simp)
    · rw [e] at q
      injection q with q
      obtain ⟨l, _, h2⟩ := h.row k v hs
      have := (h2.block hg).1
      omega
  have hcw : Chg ((getL S p).getD (.slice none 0 0)).ownBlock.toList wr wa := ((Chg.refl _ wr).alloc o).trans hc
  refine ⟨hm, ?_, fun k v hk => ?_, fun k hk => ?_, fun k v hk => ?_, fun k k' v u hk hk' hne => ?_, ?_, h.rge⟩
  · exact putL_keys S D p v' _ h.keys
  · rw [getL_putL] at hk
    unfold addM
    rw [getM_putM]
    by_cases e : k = p
    · rw [if_pos e] at hk ⊢
      injection hk with hk
      subst hk
      exact ⟨_, rfl, by rw [List.map_append]; exact hrow.chg hc3 (fun g hg => by simpa using (hv g hg).2)⟩
    · rw [if_neg e] at hk ⊢
      obtain ⟨l, h1, h2⟩ := h.row k v hk
      exact ⟨l, h1, (h2.chg hcw (fun g hg => (hold k v e hk g hg).1)).chg hc3 (fun g hg => by simpa using (h.own k v hk g hg).2)⟩
  · rw [getL_putL] at hk
    unfold addM
    rw [getM_putM]
    by_cases e : k = p
    · rw [if_pos e] at hk; cases hk
    · rw [if_neg e] at hk ⊢; exact h.non k hk
  · rw [getL_putL] at hk
    by_cases e : k = p
    · rw [if_pos e] at hk; injection hk with hk; subst hk; exact hv
    · rw [if_neg e] at hk; exact h.own k v hk
  · rw [getL_putL] at hk hk'
    intro g hg
    by_cases e : k = p
    · rw [if_pos e] at hk
      injection hk with hk
      subst hk
      rw [if_neg (fun q => hne (by rw [e, q]))] at hk'
      intro hu
      exact (hold k' u (fun q => hne (by rw [e, q])) hk' g hu).2 hg
    · rw [if_neg e] at hk
      by_cases e2 : k' = p
      · rw [if_pos e2] at hk'
        injection hk' with hk'
        subst hk'
        exact (hold k v e hk g hg).2
      · rw [if_neg e2] at hk'
        exact h.ne k k' v u hk hk' hne g hg
  · refine (h.chg.above hcw (fun i hi => .inr (h0 i (by simpa using hi)).1)).above hc3 (fun i hi => .inr ?_)
    rw [List.mem_singleton.1 hi]; exact h.rge
end Go.Proofs.YthecfligfhpccaaDoor.Li
namespace Go.Proofs.YthecfligfhpccaaDoor.Li
open Go.RowKit Go.Proofs.YthecfligfhpccaaDoorW.PrintWords Go.Proofs.YthecfligfhpccaaDoor.Gn
theorem by_bytes (s : ByteArray) : By (bytesOf s) := fun x hx => by
  obtain ⟨b, _, rfl⟩ := List.mem_map.1 hx
  have := UInt8.toNat_lt b
  omega
/-- '[]byte(s)'. -/
theorem wpList_bytesC {P : Program} {w : World} {ops : Array Oper} {rest : List Oper} {o : Oper} {a : Act} {Q : Exit → Act → World → Prop} (hg : o.guard = none) (x : Operand) (src dst e : TypeId) (ho : o.op = .convert src dst x) (s : ByteArray) (hx : a.eval x = .string s)
    (hs : P.underlying src = some .string) (hd : P.underlying dst = some (.slice e)) (he : P.underlying e = some (.int .u8)) (hz : s.size ≤ 9223372036854775807)
    (hK : ∀ w' cap, Chg [] w w' → w'.heap.size = w.heap.size + 1 → Kd.C (Kd.int .u8) w' (some ⟨w.heap.size, 0, none⟩) s.size (bytesOf s) → s.size ≤ cap → wpList P ops Q rest (a.put o.dst (.slice (some ⟨w.heap.size, 0, none⟩) s.size cap)) w') :
    wpList P ops Q (o :: rest) a w := by
  refine wpList_plain hg fun K hK' => ?_
  have hr := print_bytes (P := P) src dst e hs hd he s w
  have hrd := bytes_reads w e s hz
  unfold Oper.wp
  simp [execOp, ho, hx, hr, Result.andThen]
  refine hK' _ _ (hK _ _ ⟨rfl, rfl, rfl, by rw [Lib.bytesWorld_size]; omega, fun i hi _ => Lib.bytesWorld_at_old w e s i hi⟩ (by rw [Lib.bytesWorld_size]) ?_ (grownCap_ge _ _ _ _))
  exact Kd.C_of_reads (d := 0) (h1 := fun _ => rfl) hrd
end Go.Proofs.YthecfligfhpccaaDoor.Li
namespace Go.Proofs.YthecfligfhpccaaDoor.Li
open Go.RowKit Go.Proofs.YthecfligfhpccaaDoorW.PrintWords Go.Proofs.YthecfligfhpccaaDoor.Gn
theorem infoI : (Tryd.prog.info? 3).map (fun i => (i.zero, i.size, i.bytes)) = some (some (.int .i64 0), 1, 8) := by kernel_rfl
theorem zeroRow (w : World) : (zeroValue 37).run Tryd.prog w = .ok (.slice none 0 0) w := by kernel_rfl
theorem makeHint (w : World) : (Instr.makeMap 50 (some (.int .i64 0))).run Tryd.prog w = .ok (.map (some w.heap.size)) (w.alloc (.map #[] 0)) := by kernel_rfl
theorem bytesWorld_chg (w : World) (e : TypeId) (s : ByteArray) : Chg [] w (Lib.bytesWorld w e s) := ⟨rfl, rfl, rfl, by rw [Lib.bytesWorld_size]; omega, fun i hi _ => Lib.bytesWorld_at_old w e s i hi⟩
theorem bytesWorld_C (w : World) (e : TypeId) (s : ByteArray) (hz : s.size ≤ 9223372036854775807) : Kd.C (Kd.int .u8) (Lib.bytesWorld w e s) (some ⟨w.heap.size, 0, none⟩) s.size (bytesOf s) := Kd.C_of_reads (d := 0) (h1 := fun _ => rfl) (bytes_reads w e s hz)
def foldM (s : List Int) (kw : List ByteArray) : List (ByteArray × List Int) := kw.foldl (fun D p => addAll D p (occs s (bytesOf p))) []
def FaPost (s : List Int) (kw : List ByteArray) (w : World) (e : Ending) (w' : World) : Prop := ∃ r S, e = .returned (.map (some r)) ∧ OccW w w' r S (foldM s kw)
set_option maxHeartbeats 2000000 in
set_option maxRecDepth 100000 in
theorem findAll_calls (w : World) (A0 A1 : Option Addr) (c0 c1 : Nat) (s : List Int) (kw : List ByteArray) (hr0 : Kd.C (Kd.int .u8) w A0 s.length s) (hc0 : s.length ≤ c0) (hr1 : Kd.C Kd.string w A1 kw.length kw) (hc1 : kw.length ≤ c1)
    (hs : By s) (hl : s.length ≤ 1000) (hk : kw.length ≤ 1000) (hne : ∀ p ∈ kw, 1 ≤ p.size ∧ p.size ≤ 1000) :
    Calls Tryd.prog 23 #[.slice A0 s.length c0, .slice A1 kw.length c1] w (FaPost s kw w) := by
  have HR0 := Aside0.mk hr0
  have HR1 := Aside0.mk hr1
  have HC0 := Aside0.mk hc0
  have HS := Aside0.mk hs
  have HL := Aside0.mk hl
  have HK := Aside0.mk hk
  have HNE := Aside0.mk hne
  have hmm := makeHint
  have HO := Aside0.mk (OccW.start w)
  clear hr0 hr1 hc1 hs hne
  go_enter Tryd.func23, Tryd.ntmps23
  go_wp2_with fail
  go_loopw [15] (fun v15 wr => ∃ (k : Nat) (S : List (ByteArray × Value)), v15 = .int .i64 k ∧ Aside0 (k ≤ kw.length) ∧ Aside0 (OccW w wr w.heap.size S (foldM s (kw.take k))) ∧ Aside0 (∀ p, ((getM (foldM s (kw.take k)) p).getD []).length ≤ 1000 * k)) (fun v15 _ => kw.length - (intOf v15).toNat)
  case atStart => exact ⟨0, [], rfl, ⟨Nat.zero_le _⟩, HO, ⟨fun p => Nat.zero_le _⟩⟩
  case round =>
    clear hmm HO
    obtain ⟨k, S, rfl, HI, HO, HB⟩ := hrel
    by_cases hlt : k < kw.length
    · obtain ⟨ad, ead, hcell⟩ := Kd.at_string (Kd.C_below HR1.out (HO.out.chg.toBelow (Nat.le_refl _) (by simp))) (k : Int) (by omega) (by omega)
      subst ead
      rw [Int.toNat_natCast] at hcell
      obtain ⟨p, hp⟩ : ∃ p, p = kw[k] := ⟨_, rfl⟩
      have hpe : Go.Proofs.YthecfligfhpccaaDoorW.PrintWords.rdOf ByteArray.empty kw (k : Int) = p := by rw [hp]; simp [Go.Proofs.YthecfligfhpccaaDoorW.PrintWords.rdOf, hlt]
      rw [hpe] at hcell
      have hpn := HNE.out p (by rw [hp]; exact List.getElem_mem _)
      have HFT : Aside0 (foldM s (kw.take (k + 1)) = addAll (foldM s (kw.take k)) p (occs s (bytesOf p))) := ⟨by rw [List.take_succ_eq_append_getElem hlt]; unfold foldM; rw [List.foldl_append, ← hp]; rfl⟩
      obtain ⟨D, hD⟩ : ∃ D, D = foldM s (kw.take k) := ⟨_, rfl⟩
      rw [← hD] at HO HB HFT
      clear hp hpe hD
      have k1 : decide ((0:Int) ≤ (k:Int)) = true := decide_eq_true (by omega)
      have k2 : decide ((k:Int) < (kw.length:Int)) = true := decide_eq_true (by omega)
      go_wp2_with fail
      clear hcell k1 k2
      go_loopw [9] (fun v9 wr => ∃ (i : Nat) (S : List (ByteArray × Value)) (E : List (ByteArray × List Int)), v9 = .int .i64 i ∧ Aside0 (i ≤ s.length) ∧ Aside0 (addAll E p (occ s (bytesOf p) (s.length + 1) i) = addAll D p (occs s (bytesOf p))) ∧ Aside0 (OccW w wr w.heap.size S E) ∧ Aside0 (∀ q, ((getM E q).getD []).length + i ≤ 1000 * k + s.length)) (fun v9 _ => (intOf v9).toNat)
      case atStart => exact ⟨s.length, S, D, rfl, ⟨Nat.le_refl _⟩, ⟨rfl⟩, HO, ⟨fun q => by have := HB.out q; omega⟩⟩
      case round =>
        clear HO HB
        obtain ⟨i, S, E, rfl, HI2, HE, HO, HB⟩ := hrel
        have hil := HI2.out
        obtain ⟨m, hm⟩ : ∃ m, m = lastIx (s.take i) (bytesOf p) := ⟨_, rfl⟩
        have hti : (s.take i).length = i := by rw [List.length_take]; omega
        have hbl : (bytesOf p).length = p.size := bytesOf_length p
        have HLI : Aside0 (∀ (W : World) (B : Option Addr) (cb cc : Nat), Kd.C (Kd.int .u8) W A0 s.length s → Kd.C (Kd.int .u8) W B p.size (bytesOf p) → p.size ≤ cb → i ≤ cc → Calls Tryd.prog 31 #[.slice A0 i cc, .slice B p.size cb] W fun e w' => e = .returned (.int .i64 m) ∧ Drawn0 W w') := ⟨fun W B cb cc h1 h2 h3 h4 => by
          have h5 := Kd.C_take h1 hil
          rw [← hbl] at h2
          have h6 := li_calls W A0 B cc cb (s.take i) (bytesOf p) h5 (by rw [hti]; exact h4) h2 (by rw [hbl]; exact h3) (HS.out.take i) (by_bytes p) (by rw [hbl]; exact hpn.1) (by rw [hti]; omega) (by rw [hbl]; omega)
          rwa [hti, hbl, ← hm] at h6⟩
        have hrg := lastIx_range (s.take i) (bytesOf p)
        rw [← hm, hti, hbl] at hrg
        have HHB := Aside0.mk (HO.out.chg.toBelow (Nat.le_refl _) (by simp))
        have k3 : (i : Int) ≤ (c0 : Int) := by omega
        have k4 : i ≤ c0 := by omega
        have k5 : decide ((0 : Int) ≤ (i : Int)) = true := decide_eq_true (by omega)
        have hocc : occ s (bytesOf p) (s.length + 1) i = if m = -1 then [] else m :: occ s (bytesOf p) s.length m.toNat := by rw [hm]; rfl
        have HOCC := Aside0.mk hocc
        have hbz := print_bytes (P := Tryd.prog) 9 43 5 Tryd.underlying9 Tryd.underlying43 Tryd.underlying5 p
        have HC2 := Aside0.mk (bytesWorld_chg wr 5 p)
        have HCV := Aside0.mk (HLI.out (Lib.bytesWorld wr 5 p) _ (grownCap wr p.size 0 5) c0 (Kd.C_below (Kd.C_below HR0.out HHB.out) (HC2.out.toBelow (Nat.le_refl _) (by simp))) (bytesWorld_C wr 5 p (by omega)) (grownCap_ge _ _ _ _) k4)
        clear hm hocc hti hbl HLI HHB
        rcases hrg with hm1 | ⟨hm1, hm2, _⟩
        · subst hm1
          have HE2 : Aside0 (E = addAll D p (occs s (bytesOf p))) := ⟨by have := HE.out; rw [HOCC.out, if_pos rfl] at this; exact this⟩
          have HB2 : Aside0 (∀ q, ((getM E q).getD []).length ≤ 1000 * (k + 1)) := ⟨fun q => by have := HB.out q; omega⟩
          clear HE HB HOCC
          go_wp2_with (go_at_call 31; refine HCV.out.mono ?_; rintro e w3 ⟨rfl, hd3⟩; have HC3 : Aside0 (Chg [] wr w3) := ⟨by obtain ⟨n, rfl⟩ := hd3; exact HC2.out.drewN n⟩; clear hd3 HCV)
          have hc3 := HC3.out
          go_roundw
          case rel => exact ⟨k + 1, S, by go_num, ⟨by omega⟩, ⟨by rw [HFT.out, ← HE2.out]; exact HO.out.step hc3⟩, ⟨by rw [HFT.out, ← HE2.out]; exact HB2.out⟩⟩
          case measure => simp [intOf]; omega
        · obtain ⟨j, rfl⟩ : ∃ j : Nat, m = (j : Int) := ⟨m.toNat, by omega⟩
          have hji : j + p.size ≤ i := by omega
          have HE2 : Aside0 (addAll (addM E p j) p (occ s (bytesOf p) (s.length + 1) j) = addAll D p (occs s (bytesOf p))) := ⟨by
            have := HE.out
            rw [HOCC.out, if_neg (by omega), Int.toNat_natCast, occ_enough s (bytesOf p) (by rw [bytesOf_length]; omega) s.length j (by omega) (by omega)] at this
            exact this⟩
          have HB2 : Aside0 (∀ q, ((getM (addM E p j) q).getD []).length + j ≤ 1000 * k + s.length) := ⟨fun q => by
            have h1 := HB.out q
            unfold addM
            rw [getM_putM]
            by_cases e : q = p
            · rw [if_pos e]; subst e; simp; omega
            · rw [if_neg e]; omega⟩
          obtain ⟨L, hL⟩ : ∃ L, L = (getM E p).getD [] := ⟨_, rfl⟩
          have hLl : L.length ≤ 1000 * k + s.length := by rw [hL]; have := HB.out p; omega
          have hLl2 : 1000 * k ≤ 1000000 := by have := HI.out; omega
          have hlk := HO.out.look p
          rw [← hL] at hlk
          obtain ⟨A4, c4, e4, _⟩ := hlk.slice
          obtain ⟨n4, hn4⟩ : ∃ n4, n4 = (L.map (Value.int .i64)).length := ⟨_, rfl⟩
          rw [← hn4] at e4
          have hown4 : ∀ g, (Value.slice A4 n4 c4).ownBlock = some g → g ≠ w.heap.size := fun g hg => by
            rw [← e4] at hg
            cases hq : getL S p with
            | none => rw [hq] at hg; cases hg
            | some v => rw [hq] at hg; exact (HO.out.own p v hq g hg).2
          have HLK := Aside0.mk hlk
          have HLV := Aside0.mk e4
          have HOW4 := Aside0.mk hown4
          have HLE := Aside0.mk hL
          have HJ1 : ((j : Int) == -1) = false := beq_eq_false_iff_ne.2 (by omega)
          clear HE HB HOCC hL hlk e4 hn4 hown4 hm1 hm2
          go_wp2_with (first | (go_at_call 31; refine HCV.out.mono ?_; rintro e w3 ⟨rfl, hd3⟩; have HC3 : Aside0 (Chg [] wr w3) := ⟨by obtain ⟨n, rfl⟩ := hd3; exact HC2.out.drewN n⟩; have HO3 := Aside0.mk (HO.out.step HC3.out); have HR3 := Aside0.mk (HLK.out.chg HC3.out (by simp)); clear hd3 HCV) | (at_lookup; refine wpList_lookup rfl _ _ _ false rfl rfl p rfl HO3.out.mp.at (keyStr Tryd.underlying9) Tryd.underlying50 (.slice none 0 0) zeroRow ?_; rw [if_neg (by decide), HLV.out]) | (at_builtin; refine wpList_append1 rfl _ _ 37 rfl 3 (.int .i64 0) 8 Tryd.underlying37 infoI rfl (.slice A4 n4 c4) (L.map (Value.int .i64)) rfl ?c1 w3.heap.size (.int .i64 j) rfl ?c2 rfl ?c3 ?c4 ?_; (case c1 => exact ((by rw [← HLV.out]; exact HR3.out : ORow w3 3 (.slice A4 n4 c4) (L.map (Value.int .i64))).chg ((Chg.refl [] w3).alloc _) (by simp))); (case c2 => simp); (case c3 => (rw [List.length_map]; omega)); (case c4 => (rw [List.length_map]; unfold maxLen; omega)); intro v5 w5 hr5 hc5 ho5; have HR5 := Aside0.mk hr5; have HC5 := Aside0.mk hc5; have HO5 := Aside0.mk ho5; have HM5 : Aside0 (MapB w5 w.heap.size Value.string S) := ⟨HO3.out.mp.chg (((Chg.refl _ w3).alloc _).trans hc5) (by intro hmem; exact HOW4.out _ (by simpa using hmem) rfl)⟩; clear hr5 hc5 ho5) | (at_mapUpdate; refine wpList_mapUpdateB rfl _ _ _ 50 rfl rfl p rfl v5 rfl HM5.out (keyStr Tryd.underlying9) Tryd.underlying50 ?_; intro w6 hm6 hc6 hz6; have HM6 := Aside0.mk hm6; have HC6 := Aside0.mk hc6; clear hm6 hc6 hz6))
          simp only [Act.put, List.setIfInBounds_toArray, List.set_cons_succ, List.set_cons_zero]
          go_roundw
          case rel => exact ⟨j, _, _, by go_num, ⟨by omega⟩, HE2, ⟨HO3.out.add p j _ v5 (by rw [← HLE.out]; exact HR5.out) (by rw [HLV.out]; exact HC5.out) (by rw [HLV.out]; exact HO5.out) HM6.out HC6.out⟩, HB2⟩
          case measure => simp [intOf]; omega
    · have hk : k = kw.length := by have := HI.out; omega
      have hO := HO.out
      rw [hk, List.take_length] at hO
      have HOX := Aside0.mk hO
      have k2 : decide ((k:Int) < (kw.length:Int)) = false := decide_eq_false (by omega)
      have k3 : decide (k < kw.length) = false := decide_eq_false hlt
      clear hk hO
      go_wp2_with fail
      go_ret
      exact ⟨_, _, rfl, HOX.out⟩
end Go.Proofs.YthecfligfhpccaaDoor.Li
namespace Go.Proofs.YthecfligfhpccaaDoor.Da
def Srt (kw : List ByteArray) : Prop := kw.Pairwise (fun a b => a.data.toList ≤ b.data.toList)
end Go.Proofs.YthecfligfhpccaaDoor.Da
namespace Go.Proofs.YthecfligfhpccaaDoor.Gn
open Go.RowKit Go.Sort Go.Proofs.YthecfligfhpccaaDoorW.PrintWords
def toB (l : List UInt8) : ByteArray := ⟨l.toArray⟩
theorem toB_toL (s : ByteArray) : toB s.data.toList = s := by cases s; simp [toB]
theorem sort_any (w : World) (g c : Nat) (kw : List ByteArray) (h : ORow w 9 (.slice (some ⟨g, 0, none⟩) kw.length c) (kw.map Value.string)) (hl : kw.length < 1000000) :
    Calls Tryd.prog 24 #[.slice (some ⟨g, 0, none⟩) kw.length c] w fun e w' => e = .returned (.tuple #[]) ∧ ∃ ks : List ByteArray, ks.Perm kw ∧ Da.Srt ks ∧ ORow w' 9 (.slice (some ⟨g, 0, none⟩) ks.length c) (ks.map Value.string) ∧ Chg [g] w w' := by
  obtain ⟨ss, hss⟩ : ∃ ss : List (List UInt8), ss = kw.map (fun s => s.data.toList) := ⟨_, rfl⟩
  have hlen : ss.length = kw.length := by rw [hss, List.length_map]
  rcases h.parts with ⟨h1, _⟩ | ⟨g2, cap, cur, h1, h2, h3, h4, h5, h6⟩
  · cases h1
  injection h1 with h1 h7 h8
  injection h1 with h1
  injection h1 with h1
  subst h1
  subst h8
  have hcell : ∀ j, j < kw.length → cur[j]? = some (Value.string (kw.getD j ⟨#[]⟩)) := fun j hj => by
    have : (cur.toList.take (kw.map Value.string).length)[j]? = some (Value.string (kw.getD j ⟨#[]⟩)) := by
      rw [h6, List.getElem?_map, List.getElem?_eq_getElem hj, List.getD_eq_getElem?_getD, List.getElem?_eq_getElem hj]; rfl
    rw [List.getElem?_take, if_pos (by simpa using hj)] at this
    simpa using this
  have hH : Holds encStr w g 0 ss.toArray := fun j hj => by
    have hj' : j < kw.length := by simpa [hlen] using hj
    refine ⟨?_, by simp [World.frozen?, h2]⟩
    rw [Nat.zero_add]
    have : w.cell? ⟨g, j, none⟩ = cur[j]? := by simp [World.cell?, h2]
    rw [this, hcell j hj']
    have e : ss.toArray[j]! = (kw.getD j ⟨#[]⟩).data.toList := by
      have hj2 : j < ss.length := by omega
      rw [getElem!_pos ss.toArray j (by simpa using hj2)]
      simp only [hss, List.getElem_toArray, List.getElem_map]
      rw [List.getD_eq_getElem?_getD, List.getElem?_eq_getElem hj']; rfl
    rw [e]
  have hc := Tryd.sort_Strings g 0 c ss w hH (Array.getElem?_eq_some_iff.1 h2).1 (by omega)
  rw [hlen] at hc
  refine hc.mono ?_
  rintro e w' ⟨rfl, n, os, rfl⟩
  obtain ⟨ms, hms⟩ : ∃ ms, ms = ss.mergeSort (fun x y => decide (x ≤ y)) := ⟨_, rfl⟩
  rw [← hms]
  have hperm : ms.Perm ss := by rw [hms]; exact List.mergeSort_perm _ _
  have hmlen : ms.length = kw.length := by rw [hperm.length_eq, hlen]
  refine ⟨rfl, ms.map toB, ?_, ?_, ?_, ?_⟩
  · have := hperm.map toB
    rw [hss, List.map_map] at this
    have e : (toB ∘ fun s : ByteArray => s.data.toList) = id := by funext s; exact toB_toL s
    rwa [e, List.map_id] at this
  · have hs := List.pairwise_mergeSort (le := fun x y : List UInt8 => decide (x ≤ y)) (fun a b c h1 h2 => by simp only [decide_eq_true_eq] at *; exact Std.le_trans h1 h2) (fun a b => by simp only [Bool.or_eq_true, decide_eq_true_eq]; exact Std.le_total) ss
    rw [← hms] at hs
    unfold Da.Srt
    rw [List.pairwise_map]
    exact hs.imp (fun h => by simpa [toB] using h)
  · have hb : (grow (putRow encStr (Sort.ahead w n) g 0 ms.toArray) os).heap[g]? = some (.cells (putCells encStr 0 ms.toArray cur) 9 (0, 0)) := by
      have hlt := (Array.getElem?_eq_some_iff.1 h2).1
      have h3' := (Array.getElem?_eq_some_iff.1 h2).2
      show ((w.heap.modify g (onCells (putCells encStr 0 ms.toArray))) ++ os)[g]? = _
      rw [Array.getElem?_append_left (by simpa using hlt), Array.getElem?_eq_getElem (by simpa using hlt), Array.getElem_modify_self, h3']
      rfl
    have hl2 : (ms.map toB).length = (kw.map Value.string).length := by simp [hmlen]
    have e1 : ((ms.map toB).map Value.string).length = (ms.map toB).length := by simp
    rw [← e1]
    refine ORow.of hb (by rw [e1, hl2]; exact h3) h4 (by simp [putCells, h5]) ?_
    apply List.ext_getElem?
    intro j
    rw [List.getElem?_take]
    by_cases hj : j < ms.length
    · rw [if_pos (by simpa using hj)]
      have hjc : j < cur.size := by rw [h5]; simp at h3; omega
      simp only [putCells, Array.getElem?_toList, Array.getElem?_mapIdx, Array.getElem?_eq_getElem hjc, Option.map_some]
      rw [if_pos ⟨Nat.zero_le _, by simpa using hj⟩]
      rw [List.getElem?_map, List.getElem?_map, List.getElem?_eq_getElem hj]
      simp only [Nat.sub_zero]
      rw [getElem!_pos ms.toArray j (by simpa using hj)]
      rfl
    · rw [if_neg (by simpa using hj), List.getElem?_eq_none (by simpa using hj)]
  · refine ⟨rfl, rfl, rfl, ?_, fun k hk hs => ?_⟩
    · show w.heap.size ≤ ((w.heap.modify g (onCells (putCells encStr 0 ms.toArray))) ++ os).size
      simp
    · show ((w.heap.modify g (onCells (putCells encStr 0 ms.toArray))) ++ os)[k]? = w.heap[k]?
      have hkg : g ≠ k := fun e => hs (by simp [e])
      rw [Array.getElem?_append_left (by simpa using hk), Array.getElem?_modify, if_neg hkg]
end Go.Proofs.YthecfligfhpccaaDoor.Gn
namespace Go.Proofs.YthecfligfhpccaaDoor.Gn
open Go.RowKit Go.Proofs.YthecfligfhpccaaDoorW.PrintWords Go.Proofs.YthecfligfhpccaaDoorW.PrintLast Go.Proofs.YthecfligfhpccaaDoorW.PrintMore
theorem R_of_row {α : Type} {enc : α → Value} {h1 : ∀ x, (enc x).oneCell' = true} {w : World} {e base : Nat} {ok : Nat → Prop} {v : Value} {xs : List α} (h : ORow w e v (xs.map enc)) (hb : ∀ g, v.ownBlock = some g → base ≤ g ∧ ok g) : (Kd.scalar enc h1).R e w base ok v xs := by
  refine ⟨fun k hk => (hb k hk).2, xs.map enc, ?_, ?_⟩
  · rcases h.parts with ⟨h2, h3⟩ | ⟨g, cap, cur, h2, h3, h4, h5, h6, h7⟩
    · have : xs = [] := by simpa using h3
      subst this
      exact ⟨rfl, .inl ⟨h2, rfl⟩⟩
    · refine ⟨(show (xs.map enc).length = xs.length * 1 by simp), .inr ⟨g, cap, cur, by simpa using h2, (hb g (by rw [h2]; rfl)).1, h3, by simpa using h4, h5, ?_, ?_⟩⟩
      · show cur.size = cap * 1
        omega
      · show cur.toList.take (xs.length * 1) = _
        simpa using h7
  · refine ⟨(show (xs.map enc).length = xs.length * 1 by simp), fun j p hj => ?_⟩
    show ((xs.map enc).drop (j * 1)).take 1 = [enc p]
    obtain ⟨hj1, hj2⟩ := List.getElem?_eq_some_iff.1 hj
    rw [Nat.mul_one, List.drop_eq_getElem_cons (by simpa using hj1)]
    simp [hj2]
theorem row_of_R {α : Type} {enc : α → Value} {h1 : ∀ x, (enc x).oneCell' = true} {w : World} {e base : Nat} {ok : Nat → Prop} {v : Value} {xs : List α} (h : (Kd.scalar enc h1).R e w base ok v xs) : ORow w e v (xs.map enc) := by
  obtain ⟨_, cs, h2, h3, h4⟩ := h
  have hcs : cs = xs.map enc := by
    apply List.ext_getElem?
    intro j
    have hl : cs.length = xs.length * 1 := h3
    by_cases hj : j < xs.length
    · have := h4 j xs[j] (List.getElem?_eq_getElem hj)
      have this : (cs.drop (j * 1)).take 1 = [enc xs[j]] := this
      rw [Nat.mul_one, List.drop_eq_getElem_cons (by omega)] at this
      simp only [List.take_succ_cons, List.take_zero, List.cons.injEq, and_true] at this
      rw [List.getElem?_eq_getElem (by omega), this, List.getElem?_map, List.getElem?_eq_getElem hj]
      rfl
    · rw [List.getElem?_eq_none (by omega), List.getElem?_eq_none (by simpa using hj)]
  subst hcs
  obtain ⟨a1, a2⟩ := h2
  refine ⟨by simp, ?_⟩
  rcases a2 with ⟨a2, a3⟩ | ⟨g, cap, cur, a2, a3, a4, a5, a6, a7, a8⟩
  · exact .inl ⟨a2, by simpa using a3⟩
  · have a8 : cur.toList.take (xs.length * 1) = xs.map enc := a8
    have a7 : cur.size = cap * 1 := a7
    exact .inr ⟨g, cap, cur, by simpa using a2, Nat.zero_le _, a4, by simpa using a5, a6, a7, by simpa using a8⟩

theorem run_append_none {P : Program} {w : World} {e t ty : TypeId} {v : Value} {xs : List Value} (hown : ORow w e v xs) {i : TypeInfo} (ht : P.underlying t = some (.slice e)) (hi : P.info? e = some i) (c : Nat) : (Builtin.append_ #[t, t] ty #[v, .slice none 0 c]).run P w = .ok v w := by
  rcases hown.parts with ⟨rfl, rfl⟩ | ⟨g, cap, cur, rfl, h2, h3, h4, h5, h6⟩
  · simp [Builtin.append_, run_underlying ht, sizeOf, typeInfo, hi, Builtin.lenOf, Builtin.firstCells]
  · simp [Builtin.append_, run_underlying ht, sizeOf, typeInfo, hi, Builtin.lenOf, Builtin.firstCells, h3, storeCells]
/-- 'append(s, x...)' where x is a row of its own, empty or nil too. -/
theorem wpList_appendRow {P : Program} {w : World} {ops : Array Oper} {rest : List Oper} {o : Oper} {a : Act} {Q : Exit → Act → World → Prop} (hgd : o.guard = none) (s x : Operand) (t : TypeId)
    (ho : o.op = .call { callee := .builtin .append, args := #[s, x], argTypes := #[t, t] })
    (e : TypeId) (z : Value) (bytes : Nat) (ht : P.underlying t = some (.slice e)) (hi : (P.info? e).map (fun i => (i.zero, i.size, i.bytes)) = some (some z, 1, bytes)) (hzs : z.cells.size = 1)
    (v : Value) (xs : List Value) (hs : a.eval s = v) (hown : ORow w e v xs) (e2 : TypeId) (u : Value) (ys : List Value) (hx : a.eval x = u) (hU : ORow w e2 u ys) (h1 : ∀ y ∈ ys, y.oneCell' = true)
    (hl : (xs.length + ys.length) * bytes ≤ 140737488355328) (hl2 : xs.length + ys.length ≤ maxLen)
    (h : ∀ v' w', ORow w' e v' (xs ++ ys) → Chg v.ownBlock.toList w w' → (v'.ownBlock = v.ownBlock ∨ v'.ownBlock = some w.heap.size) → wpList P ops Q rest (a.put o.dst v') w') :
    wpList P ops Q (o :: rest) a w := by
  obtain ⟨i, hi1, hi2, hi3, hi4⟩ := info_parts hi
  rcases hU.parts with ⟨rfl, rfl⟩ | ⟨g, cap, cur, rfl, h2, h3, h4, h5, h6⟩
  · refine wpList_plain hgd fun K hK => ?_
    have hr := run_append_none (P := P) (ty := o.type) hown ht hi1 0
    unfold Oper.wp
    simp [execOp, ho, resolve, invoke, builtin, hs, hx, hr, Result.andThen]
    exact hK _ _ (h v w (by simpa using hown) (Chg.refl _ _) (.inl rfl))
  · refine wpList_append_own_at w hgd s x t ho 0 e i z 1 bytes ht hi1 hi2 hi3 hi4 hzs (by omega) v xs.length xs hs hown ⟨g, 0, none⟩ ys.length cap ys hx (by simp) (fun j y hj => ?_) h1 hl2 hl (Nat.zero_le _) ?_
    · obtain ⟨hj1, hj2⟩ := List.getElem?_eq_some_iff.1 hj
      have := hU.cell j hj1
      unfold Addr.add
      by_cases hz : j = 0
      · subst hz; rw [if_pos rfl]; rw [this, hj2]
      · rw [if_neg hz]; simp only [Nat.zero_add]; rw [this, hj2]
    · intro v' w' h2 h3 _ h5
      exact h v' w' (by unfold ORow; simpa using h2) (grownBy_chg h3) h5
theorem ORow.made0 (w : World) (e : Nat) : ORow (w.alloc (.cells #[] e)) e (.slice (some ⟨w.heap.size, 0, none⟩) 0 0) [] :=
  ORow.of (xs := []) (cap := 0) (heap_alloc_new _ _) (Nat.le_refl _) (by unfold maxLen; omega) rfl rfl
end Go.Proofs.YthecfligfhpccaaDoor.Gn
namespace Go.Proofs.YthecfligfhpccaaDoor.Li
open Go.RowKit Go.Proofs.YthecfligfhpccaaDoorW.PrintWords Go.Proofs.YthecfligfhpccaaDoorW.PrintLast Go.Proofs.YthecfligfhpccaaDoorW.PrintMore Go.Proofs.YthecfligfhpccaaDoor.Gn
theorem infoII : (Tryd.prog.info? 37).map (fun i => (i.zero, i.size, i.bytes)) = some (some (.slice none 0 0), 1, 24) := by kernel_rfl
def placesOf (D : List (ByteArray × List Int)) (kw : List ByteArray) : List (List Int) := kw.map fun p => (getM D p).getD []
def PaPost (D : List (ByteArray × List Int)) (kw : List ByteArray) (w : World) (e : Ending) (w' : World) : Prop :=
  ∃ v, e = .returned v ∧ Kd.S (Kd.slice 3 (Kd.int .i64)) 37 w' w.heap.size (fun _ => True) v (placesOf D kw) ∧ Below w.heap.size w w'
theorem getM_len (s : List Int) : ∀ (kw : List ByteArray) (p : ByteArray), ((getM (foldM s kw) p).getD []).length ≤ (s.length + 1) * kw.length := by
  have h1 : ∀ (q : List Int) (f i : Nat), (occ s q f i).length ≤ f := by
    intro q f
    induction f with
    | zero => intro i; simp [occ]
    | succ f ih =>
      intro i
      simp only [occ]
      split
      · simp
      · rw [List.length_cons]; have := ih (lastIx (s.take i) q).toNat; omega
  have h2 : ∀ (kw : List ByteArray) (D : List (ByteArray × List Int)) (n : Nat), (∀ p, ((getM D p).getD []).length ≤ n) → ∀ p, ((getM (kw.foldl (fun D p => addAll D p (occs s (bytesOf p))) D) p).getD []).length ≤ n + (s.length + 1) * kw.length := by
    intro kw
    induction kw with
    | nil => intro D n h p; simpa using h p
    | cons q kw ih =>
      intro D n h p
      rw [List.foldl_cons]
      have := ih (addAll D q (occs s (bytesOf q))) (n + (s.length + 1)) (fun p => by
        rw [getM_addAll]
        split
        · rename_i hc
          simp only [Option.getD_some, List.length_append]
          have a := h q
          have b := h1 (bytesOf q) (s.length + 1) s.length
          unfold occs; omega
        · have := h p; omega) p
      rw [List.length_cons, Nat.mul_succ]
      omega
  intro kw p
  have := h2 kw [] 0 (fun p => by simp [getM]) p
  unfold foldM; omega
set_option maxHeartbeats 2000000 in
set_option maxRecDepth 100000 in
theorem places_calls (w : World) (x : ByteArray) (A1 : Option Addr) (c1 : Nat) (kw : List ByteArray) (hr1 : Kd.C Kd.string w A1 kw.length kw) (hc1 : kw.length ≤ c1)
    (hl : x.size ≤ 1000) (hk : kw.length ≤ 1000) (hne : ∀ p ∈ kw, 1 ≤ p.size ∧ p.size ≤ 1000) :
    Calls Tryd.prog 16 #[.string x, .slice A1 kw.length c1] w (PaPost (foldM (bytesOf x) kw) kw w) := by
  have hbz := print_bytes (P := Tryd.prog) 9 43 5 Tryd.underlying9 Tryd.underlying43 Tryd.underlying5 x
  have hc0 := bytesWorld_chg w 5 x
  have hbl : (bytesOf x).length = x.size := bytesOf_length x
  have hfa := findAll_calls (Lib.bytesWorld w 5 x) (some ⟨w.heap.size, 0, none⟩) A1 (grownCap w x.size 0 5) c1 (bytesOf x) kw (by rw [hbl]; exact bytesWorld_C w 5 x (by omega)) (by rw [hbl]; exact grownCap_ge _ _ _ _) (Kd.C_below hr1 (hc0.toBelow (Nat.le_refl _) (by simp))) hc1 (by_bytes x) (by omega) hk hne
  rw [hbl] at hfa
  have HFA := Aside0.mk hfa
  have HR1 := Aside0.mk hr1
  have HC0 := Aside0.mk hc0
  have HLN : Aside0 (∀ p, ((getM (foldM (bytesOf x) kw) p).getD []).length ≤ 1001 * kw.length) := ⟨fun p => by
    have := getM_len (bytesOf x) kw p
    have h2 : ((bytesOf x).length + 1) * kw.length ≤ 1001 * kw.length := Nat.mul_le_mul_right _ (by omega)
    omega⟩
  obtain ⟨D, hD⟩ : ∃ D, D = foldM (bytesOf x) kw := ⟨_, rfl⟩
  rw [← hD] at HLN
  have HD := Aside0.mk hD
  rw [← hD]
  clear hfa hr1 hc0 hbl hl hne hc1 hD
  go_enter Tryd.func16, Tryd.ntmps16
  go_wp2_with (go_at_call 23; refine HFA.out.mono ?_; rintro e w1 ⟨r, S, rfl, ho⟩; rw [← HD.out] at ho; have HO := Aside0.mk ho; have HB1 : Aside0 (Below w.heap.size w w1) := ⟨(HC0.out.trans ho.chg).toBelow (Nat.le_refl _) (by simp)⟩; clear ho HFA HC0)
  clear hbz HD
  go_loopw [6, 15] (fun v6 v15 wr => ∃ k : Nat, v15 = .int .i64 k ∧ Aside0 (k ≤ kw.length) ∧ Aside0 (Kd.S (Kd.slice 3 (Kd.int .i64)) 37 wr w1.heap.size (fun _ => True) v6 (placesOf D (kw.take k))) ∧ Aside0 (Below w1.heap.size w1 wr)) (fun _ v15 _ => kw.length - (intOf v15).toNat)
  case atStart => exact ⟨0, rfl, ⟨Nat.zero_le _⟩, ⟨Kd.S_nil _ _ _ _ _⟩, ⟨Below.refl _ _⟩⟩
  case round =>
    obtain ⟨k, rfl, HI, HS, HB⟩ := hrel
    have hcr := Chg.below HB.out
    by_cases hlt : k < kw.length
    · obtain ⟨A6, c6, e6⟩ := Kd.R_slice (Kd.S_R HS.out)
      have hpl : (placesOf D (kw.take k)).length = k := by unfold placesOf; rw [List.length_map, List.length_take]; omega
      rw [hpl] at e6
      subst e6
      obtain ⟨ad, ead, hcell⟩ := Kd.at_string (Kd.C_below (Kd.C_below HR1.out HB1.out) HB.out) (k : Int) (by omega) (by omega)
      subst ead
      rw [Int.toNat_natCast] at hcell
      obtain ⟨p, hp⟩ : ∃ p, p = kw[k] := ⟨_, rfl⟩
      have hpe : Go.Proofs.YthecfligfhpccaaDoorW.PrintWords.rdOf ByteArray.empty kw (k : Int) = p := by rw [hp]; simp [Go.Proofs.YthecfligfhpccaaDoorW.PrintWords.rdOf, hlt]
      rw [hpe] at hcell
      obtain ⟨L, hL⟩ : ∃ L, L = (getM D p).getD [] := ⟨_, rfl⟩
      have HTK : Aside0 (placesOf D (kw.take (k + 1)) = placesOf D (kw.take k) ++ [L]) := ⟨by rw [List.take_succ_eq_append_getElem hlt]; unfold placesOf; rw [List.map_append, hL, hp]; rfl⟩
      have hLl : L.length ≤ 1001 * kw.length := by rw [hL]; exact HLN.out p
      have HOK := Aside0.mk (HO.out.step hcr)
      have hlk := HOK.out.look p
      rw [← hL] at hlk
      obtain ⟨AL, cL, eL, _⟩ := hlk.slice
      obtain ⟨nL, hnL⟩ : ∃ nL, nL = (L.map (Value.int .i64)).length := ⟨_, rfl⟩
      rw [← hnL] at eL
      rw [eL] at hlk
      have HLK := Aside0.mk hlk
      have HLV := Aside0.mk eL
      have k1 : decide ((0:Int) ≤ (k:Int)) = true := decide_eq_true (by omega)
      have k2 : decide ((k:Int) < (kw.length:Int)) = true := decide_eq_true (by omega)
      have HPL := Aside0.mk hpl
      clear hpe hp hL hlk eL hnL hcr hpl
      have HOA := Aside0.mk (HOK.out.step ((Chg.refl [] wr).alloc (.cells #[] 3)))
      have HLA := Aside0.mk (HLK.out.chg ((Chg.refl [] wr).alloc (.cells #[] 3)) (by simp))
      have HLL : Aside0 ((L.map (Value.int .i64)).length ≤ 1001 * kw.length) := ⟨by rw [List.length_map]; exact hLl⟩
      clear hLl
      go_wp2_with (first | (at_lookup; refine wpList_lookup rfl _ _ _ false rfl rfl p rfl HOA.out.mp.at (keyStr Tryd.underlying9) Tryd.underlying50 (.slice none 0 0) zeroRow ?_; rw [if_neg (by decide), HLV.out]) | (at_builtin; refine wpList_appendRow rfl _ _ 37 rfl 3 (.int .i64 0) 8 Tryd.underlying37 infoI rfl (.slice (some ⟨wr.heap.size, 0, none⟩) 0 0) [] rfl (ORow.made0 wr 3) 3 (.slice AL nL cL) (L.map (Value.int .i64)) rfl HLA.out (by intro y hy; obtain ⟨z, _, rfl⟩ := List.mem_map.1 hy; rfl) ?c3 ?c4 ?_; (case c3 => (have := HLL.out; simp only [List.length_nil]; omega)); (case c4 => (have := HLL.out; simp only [List.length_nil]; unfold maxLen; omega)); intro v5 w5 hr5 hc5 ho5; rw [List.nil_append] at hr5; obtain ⟨A5, c5, e5, _⟩ := hr5.slice; obtain ⟨n5, hn5⟩ : ∃ n5, n5 = (L.map (Value.int .i64)).length := ⟨_, rfl⟩; rw [← hn5] at e5; subst e5; clear hn5; have HR5 := Aside0.mk hr5; have HO5 := Aside0.mk ho5; have HC5 : Aside0 (Chg [] wr w5) := ⟨((Chg.refl [] wr).alloc _).above hc5 (fun i hi => .inr (by have : i = wr.heap.size := (by simpa [Value.ownBlock] using hi); omega))⟩; have HG5 : Aside0 (∀ g, (Value.slice A5 n5 c5).ownBlock = some g → wr.heap.size ≤ g) := ⟨fun g hg => by rw [hg] at ho5; rcases ho5 with q | q <;> (have q2 : g = _ := (by injection q)); exact Nat.le_of_eq q2.symm; rw [q2, size_alloc]; omega⟩; have HB5 : Aside0 (Below wr.heap.size wr w5) := ⟨HC5.out.toBelow (Nat.le_refl _) (by simp)⟩; have hlt6 := Kd.S_lt HS.out; have HNB : Aside0 (∀ g, some g = (Value.slice A5 n5 c5).ownBlock → some g ≠ (Value.slice A6 k c6).ownBlock) := ⟨fun g e e2 => by have a := HG5.out g e.symm; have b := hlt6 g e2.symm; omega⟩; have HS5 : Aside0 (Kd.S (Kd.slice 3 (Kd.int .i64)) 37 w5 w1.heap.size (fun k_ => True ∧ ¬ some k_ = (Value.slice A5 n5 c5).ownBlock) (.slice A6 k c6) (placesOf D (kw.take k))) := ⟨Kd.S_mono (Kd.S_below (Kd.S_bound HS.out) HB5.out) (fun g hg => ⟨trivial, fun e => by have a := HG5.out g e.symm; have := hg.2.2.1; omega⟩)⟩; have HW5 : Aside0 (Below w1.heap.size w1 w5) := ⟨HB.out.trans (HB5.out.mono HB.out.size)⟩; have HR6 : Aside0 ((Kd.int .i64).R 3 w5 w1.heap.size (fun k_ => some k_ = (Value.slice A5 n5 c5).ownBlock) (.slice A5 n5 c5) L) := ⟨R_of_row (enc := Value.int .i64) HR5.out (fun g hg => ⟨Nat.le_trans HB.out.size (HG5.out g hg), hg.symm⟩)⟩; clear hr5 hc5 ho5 hlt6) | (at_builtin; refine Kd.S_append (Kd.slice 3 (Kd.int .i64)) (w0 := w1) (W := w5) w1.heap.size rfl _ _ 32 37 (.slice none 0 0) 24 rfl Tryd.underlying32 infoII rfl (by decide) (by omega) (.slice A6 k c6) (placesOf D (kw.take k)) L [.slice A5 n5 c5] (fun _ => True) (fun k_ => some k_ = (Value.slice A5 n5 c5).ownBlock) rfl rfl ?aP (fun k_ hk_ => ⟨trivial, HNB.out k_ hk_⟩) (fun _ _ => trivial) HS5.out HW5.out ?aS ?aL ?_; (case aP => exact Kd.M_row HR6.out); (case aS => exact HW5.out.size); (case aL => (rw [HPL.out]; omega)); intro v6 w6 hs6 hb6 hg6 hat6; have HS6 := Aside0.mk hs6; have HB6 := Aside0.mk hb6; clear hs6 hb6 hg6 hat6))
      go_roundw
      case rel => exact ⟨k + 1, by go_num, ⟨by omega⟩, ⟨by rw [HTK.out]; exact HS6.out⟩, HB6⟩
      case measure => simp [intOf]; omega
    · have hk2 : k = kw.length := by have := HI.out; omega
      have hS := HS.out
      rw [hk2, List.take_length] at hS
      have HSX := Aside0.mk hS
      have k1 : decide (k < kw.length) = false := decide_eq_false hlt
      have k2 : decide ((k:Int) < (kw.length:Int)) = false := decide_eq_false (by omega)
      clear hk2 hS hcr
      go_wp2_with fail
      go_ret
      exact ⟨_, rfl, Kd.S_lower HSX.out HB1.out.size, HB1.out.trans (HB.out.mono HB1.out.size)⟩
end Go.Proofs.YthecfligfhpccaaDoor.Li
namespace Go.Proofs.YthecfligfhpccaaDoor.Li
open Go.RowKit Go.Proofs.YthecfligfhpccaaDoorW.PrintWords Go.Proofs.YthecfligfhpccaaDoorW.PrintLast Go.Proofs.YthecfligfhpccaaDoorW.PrintMore Go.Proofs.YthecfligfhpccaaDoor.Gn
/-! ### Sorted keys, plain -/
def insB (s : ByteArray) : List ByteArray → List ByteArray
  | [] => [s]
  | x :: l => if x.data.toList < s.data.toList then x :: insB s l else s :: x :: l
def isort (l : List ByteArray) : List ByteArray := l.foldl (fun a s => insB s a) []
theorem insB_perm (s : ByteArray) : ∀ l, (insB s l).Perm (s :: l)
  | [] => List.Perm.refl _
  | x :: l => by
    unfold insB
    split
    · exact ((insB_perm s l).cons x).trans (List.Perm.swap s x l)
    · exact List.Perm.refl _
theorem isort_perm_go : ∀ (l a : List ByteArray), (l.foldl (fun a s => insB s a) a).Perm (a ++ l)
  | [], a => by simp
  | s :: l, a => by
    rw [List.foldl_cons]
    refine (isort_perm_go l (insB s a)).trans ?_
    refine ((insB_perm s a).append_right l).trans ?_
    exact (List.perm_middle (a := s) (l₁ := a) (l₂ := l)).symm
theorem isort_perm (l : List ByteArray) : (isort l).Perm l := by have := isort_perm_go l []; rw [List.nil_append] at this; exact this
theorem insB_srt (s : ByteArray) : ∀ {l : List ByteArray}, Da.Srt l → Da.Srt (insB s l)
  | [], _ => by unfold insB Da.Srt; simp
  | x :: l, h => by
    unfold Da.Srt at h
    rw [List.pairwise_cons] at h
    unfold insB
    split
    · rename_i hlt
      unfold Da.Srt
      rw [List.pairwise_cons]
      refine ⟨fun y hy => ?_, insB_srt s h.2⟩
      rcases List.mem_cons.1 ((insB_perm s l).mem_iff.1 hy) with e | e
      · subst e; exact Std.le_of_lt hlt
      · exact h.1 y e
    · rename_i hlt
      have hle : s.data.toList ≤ x.data.toList := Std.not_lt.1 hlt
      unfold Da.Srt
      rw [List.pairwise_cons]
      refine ⟨fun y hy => ?_, List.pairwise_cons.2 h⟩
      rcases List.mem_cons.1 hy with e | e
      · subst e; exact hle
      · exact Std.le_trans hle (h.1 y e)
theorem isort_srt (l : List ByteArray) : Da.Srt (isort l) := by
  have key : ∀ (l a : List ByteArray), Da.Srt a → Da.Srt (l.foldl (fun a s => insB s a) a) := by
    intro l
    induction l with
    | nil => intro a h; exact h
    | cons s l ih => intro a h; rw [List.foldl_cons]; exact ih _ (insB_srt s h)
  exact key l [] (by unfold Da.Srt; simp)
theorem bytes_ext {a b : ByteArray} (h : a.data.toList = b.data.toList) : a = b := by
  cases a with | mk a => cases b with | mk b => simpa using h
theorem srt_unique : ∀ {a b : List ByteArray}, Da.Srt a → Da.Srt b → a.Perm b → a = b
  | [], b, _, _, h => by rw [List.nil_perm] at h; exact h.symm
  | x :: a, [], _, _, h => by rw [List.perm_nil] at h; cases h
  | x :: a, y :: b, ha, hb, h => by
    unfold Da.Srt at ha hb
    rw [List.pairwise_cons] at ha hb
    have hxy : x = y := by
      apply bytes_ext
      apply Std.le_antisymm
      · rcases List.mem_cons.1 (h.symm.mem_iff.1 (List.mem_cons_self (a := y) (l := b))) with e | e
        · rw [e]; exact Std.le_refl _
        · exact ha.1 y e
      · rcases List.mem_cons.1 (h.mem_iff.1 (List.mem_cons_self (a := x) (l := a))) with e | e
        · rw [e]; exact Std.le_refl _
        · exact hb.1 x e
    subst hxy
    rw [srt_unique ha.2 hb.2 (List.perm_cons x |>.1 h)]
end Go.Proofs.YthecfligfhpccaaDoor.Li
namespace Go.Proofs.YthecfligfhpccaaDoor.Li
open Go.RowKit Go.Proofs.YthecfligfhpccaaDoorW.PrintWords Go.Proofs.YthecfligfhpccaaDoorW.PrintLast Go.Proofs.YthecfligfhpccaaDoorW.PrintMore Go.Proofs.YthecfligfhpccaaDoor.Gn
theorem infoS : (Tryd.prog.info? 9).map (fun i => (i.zero, i.size, i.bytes)) = some (some (.string ⟨#[]⟩), 1, 16) := by kernel_rfl
def PsPost (D : List (ByteArray × List Int)) (w : World) (e : Ending) (w' : World) : Prop :=
  ∃ v, e = .returned v ∧ Kd.R Kd.string 9 w' w.heap.size (fun _ => True) v (isort (D.map (·.1))) ∧ Below w.heap.size w w'
theorem foldM_len (s : List Int) (kw : List ByteArray) : (foldM s kw).length ≤ kw.length := by
  have h0 : ∀ (D : List (ByteArray × List Int)) (p : ByteArray) (v : List Int), (putM D p v).length ≤ D.length + 1 ∧ ((getM D p).isSome → (putM D p v).length = D.length) := by
    intro D
    induction D with
    | nil => intro p v; simp [putM, getM]
    | cons q D ih =>
      intro p v
      unfold putM getM
      by_cases e : q.1 = p
      · rw [if_pos e, if_pos e]; simp
      · rw [if_neg e, if_neg e]; have := ih p v; simp only [List.length_cons]; exact ⟨by omega, fun h => by rw [this.2 h]⟩
  have h1 : ∀ (p : ByteArray) (ms : List Int) (D : List (ByteArray × List Int)), (getM D p).isSome → (addAll D p ms).length = D.length := by
    intro p ms
    induction ms with
    | nil => intro D _; rfl
    | cons m ms ih =>
      intro D h
      show (addAll (addM D p m) p ms).length = _
      rw [ih (addM D p m) (by unfold addM; rw [getM_putM, if_pos rfl]; rfl)]
      exact (h0 D p _).2 h
  have h2 : ∀ (p : ByteArray) (ms : List Int) (D : List (ByteArray × List Int)), (addAll D p ms).length ≤ D.length + 1 := by
    intro p ms D
    cases ms with
    | nil => exact Nat.le_succ _
    | cons m ms =>
      show (addAll (addM D p m) p ms).length ≤ _
      rw [h1 p ms (addM D p m) (by unfold addM; rw [getM_putM, if_pos rfl]; rfl)]
      exact (h0 D p _).1
  have h3 : ∀ (kw : List ByteArray) (D : List (ByteArray × List Int)), (kw.foldl (fun D p => addAll D p (occs s (bytesOf p))) D).length ≤ D.length + kw.length := by
    intro kw
    induction kw with
    | nil => intro D; exact Nat.le_refl _
    | cons p kw ih => intro D; rw [List.foldl_cons, List.length_cons]; have := ih (addAll D p (occs s (bytesOf p))); have := h2 p (occs s (bytesOf p)) D; omega
  simpa [foldM] using h3 kw []
def lenOf (n : Nat) : Value → Nat
  | .slice _ k _ => n - k
  | _ => 0
set_option maxHeartbeats 2000000 in
set_option maxRecDepth 100000 in
theorem placesSorted_calls (w : World) (x : ByteArray) (A1 : Option Addr) (c1 : Nat) (kw : List ByteArray) (hr1 : Kd.C Kd.string w A1 kw.length kw) (hc1 : kw.length ≤ c1)
    (hl : x.size ≤ 1000) (hk : kw.length ≤ 1000) (hne : ∀ p ∈ kw, 1 ≤ p.size ∧ p.size ≤ 1000) :
    Calls Tryd.prog 13 #[.string x, .slice A1 kw.length c1] w (PsPost (foldM (bytesOf x) kw) w) := by
  have hbz := print_bytes (P := Tryd.prog) 9 43 5 Tryd.underlying9 Tryd.underlying43 Tryd.underlying5 x
  have hc0 := bytesWorld_chg w 5 x
  have hbl : (bytesOf x).length = x.size := bytesOf_length x
  have hfa := findAll_calls (Lib.bytesWorld w 5 x) (some ⟨w.heap.size, 0, none⟩) A1 (grownCap w x.size 0 5) c1 (bytesOf x) kw (by rw [hbl]; exact bytesWorld_C w 5 x (by omega)) (by rw [hbl]; exact grownCap_ge _ _ _ _) (Kd.C_below hr1 (hc0.toBelow (Nat.le_refl _) (by simp))) hc1 (by_bytes x) (by omega) hk hne
  rw [hbl] at hfa
  have HFA := Aside0.mk hfa
  have HC0 := Aside0.mk hc0
  have hdl := foldM_len (bytesOf x) kw
  obtain ⟨D, hD⟩ : ∃ D, D = foldM (bytesOf x) kw := ⟨_, rfl⟩
  rw [← hD] at hdl
  have HDL : Aside0 (D.length ≤ 1000) := ⟨by omega⟩
  have HD := Aside0.mk hD
  rw [← hD]
  clear hfa hr1 hc0 hbl hl hne hc1 hD hdl
  go_enter Tryd.func13, Tryd.ntmps13
  go_upto_region 2 with fail
  go_wp2_with (first | (go_at_call 23; refine HFA.out.mono ?_; rintro e w1 ⟨r, S, rfl, ho⟩; rw [← HD.out] at ho; have HO := Aside0.mk ho; have HB1 : Aside0 (Below w.heap.size w w1) := ⟨(HC0.out.trans ho.chg).toBelow (Nat.le_refl _) (by simp)⟩; clear ho HFA HC0) | (at_range; refine wpList_rangeB rfl _ _ rfl rfl HO.out.mp Tryd.underlying50 ?_; intro w2 hr2 hc2 hz2; have HR2 := Aside0.mk hr2; have HC2 := Aside0.mk hc2; have HZ2 := Aside0.mk hz2; clear hr2 hc2 hz2))
  clear hbz HD
  go_frame
  have HRR : Aside0 (r < w1.heap.size) := ⟨HO.out.mp.lt⟩
  have HSL : Aside0 (S.length = D.length) := ⟨by have := congrArg List.length HO.out.keys; simpa using this⟩
  have hw12 : Aside0 (Below w.heap.size w w2) := ⟨HB1.out.trans ((HC2.out.toBelow (Nat.le_refl _) (by simp)).mono HB1.out.size)⟩
  go_loopw [5] (fun v5 wr => ∃ done : List ByteArray, Aside0 (Ranged wr w1.heap.size r Value.string S done) ∧ Aside0 (ORow wr 9 v5 (done.map Value.string)) ∧ Aside0 (∀ g, v5.ownBlock = some g → w2.heap.size ≤ g) ∧ Aside0 (Chg [w1.heap.size] w2 wr)) (fun v5 wr => lenOf S.length v5)
  case atStart => exact ⟨[], HR2, ⟨ORow.nil _ _⟩, ⟨fun g hg => by cases hg⟩, ⟨Chg.refl _ _⟩⟩
  case round =>
    obtain ⟨done, HR, HV, HG, HC⟩ := hrel
    obtain ⟨A5, c5, e5, hc5, hA5, _⟩ := HV.out.slice
    have hdl : (done.map Value.string).length = done.length := List.length_map _
    rw [hdl] at e5 hc5
    subst e5
    rcases HR.out.next (P := Tryd.prog) (by have := HRR.out; omega) 0 with ⟨hrun, hp⟩ | ⟨k, v, w3, hkv, hrun, hr3, hc3, hz3, hdn, hent⟩
    · have HP := Aside0.mk hp
      have HWR : Aside0 (Below w.heap.size w wr) := ⟨hw12.out.trans ((HC.out.toBelow (B := w1.heap.size) (by have := HZ2.out; omega) (by simp)).mono HB1.out.size)⟩
      clear hp
      have hkeys : done.Perm (D.map (·.1)) := by
        have h1 := HP.out
        rw [← HO.out.keys]
        have h2 : (S.map fun p => Value.string p.1) = (S.map (·.1)).map Value.string := by rw [List.map_map]; rfl
        rw [h2] at h1
        have h3 := h1.map (fun v : Value => match v with | .string s => s | _ => ByteArray.empty)
        rw [List.map_map, List.map_map] at h3
        have e : ((fun v : Value => match v with | .string s => s | _ => ByteArray.empty) ∘ Value.string) = id := rfl
        rw [e, List.map_id, List.map_id] at h3
        exact h3
      have HKY := Aside0.mk hkeys
      have hlen : done.length ≤ 1000 := by have := hkeys.length_eq; rw [List.length_map] at this; have := HDL.out; omega
      clear hkeys
      by_cases h0 : done = []
      · subst h0
        have HE : Aside0 (D.map (·.1) = []) := ⟨List.nil_perm.1 HKY.out⟩
        go_wp2_with fail
        refine (Tryd.sort_Strings_none _ _ _).mono ?_
        rintro e w9 ⟨rfl, rfl⟩
        go_wp2_with fail
        go_ret
        refine ⟨_, rfl, ?_, HWR.out⟩
        rw [HE.out]
        exact R_of_row (enc := Value.string) (xs := []) HV.out (fun g hg => ⟨by have a := HG.out g hg; have b := hw12.out.size; omega, trivial⟩)
      · obtain ⟨g, rfl⟩ := hA5 (fun e => h0 (List.map_eq_nil_iff.1 e))
        have hsrt := sort_any wr g c5 done HV.out (by omega)
        have HSRT := Aside0.mk hsrt
        have hgg : w2.heap.size ≤ g := HG.out g rfl
        clear hsrt
        go_wp2_with fail
        refine HSRT.out.mono ?_
        rintro e w9 ⟨rfl, ks, hks, hss, hrow, hc9⟩
        have HKS : Aside0 (ks = isort (D.map (·.1))) := ⟨srt_unique hss (isort_srt _) (hks.trans (HKY.out.trans (isort_perm _).symm))⟩
        have HKL : Aside0 (ks.length = done.length) := ⟨hks.length_eq⟩
        have HROW := Aside0.mk hrow
        have hsz : w.heap.size ≤ wr.heap.size := HWR.out.size
        have HB9 : Aside0 (Below w.heap.size w w9) := ⟨HWR.out.trans (hc9.toBelow hsz (by intro k hk; rw [List.mem_singleton.1 hk]; have := hw12.out.size; omega))⟩
        clear hks hss hrow hc9
        go_wp2_with fail
        go_ret
        refine ⟨_, rfl, ?_, HB9.out⟩
        rw [← HKS.out, ← HKL.out]
        exact R_of_row (enc := Value.string) HROW.out (fun q hq => ⟨by have a : g = q := (by injection hq); have b := hw12.out.size; omega, trivial⟩)
    · have hne : w1.heap.size ∉ ([] : List Nat) := by simp
      have hc3' : Chg [w1.heap.size] w2 w3 := HC.out.trans hc3
      have HR3 := Aside0.mk hr3
      have HC3 := Aside0.mk hc3'
      have hg5 : ∀ g, (Value.slice A5 done.length c5).ownBlock = some g → g ∉ [w1.heap.size] := fun g hg => by have := HG.out g hg; have := HZ2.out; simp; omega
      have HV3 := Aside0.mk (HV.out.chg hc3 hg5)
      have HDN : Aside0 (done.length < S.length) := ⟨hdn⟩
      have HLE : Aside0 (done.length ≤ 1000) := ⟨by have := HSL.out; have := HDL.out; omega⟩
      have hSL : done.length < S.length := hdn
      clear hr3 hc3 hc3' hkv hz3 hdn hg5 hc5 hne
      go_wp2_with (at_builtin; refine wpList_append1 rfl _ _ 22 rfl 9 (.string ⟨#[]⟩) 16 Tryd.underlying22 infoS rfl (.slice A5 done.length c5) (done.map Value.string) rfl (HV3.out.chg ((Chg.refl [] w3).alloc _) (by simp)) w3.heap.size (.string k) rfl (by simp) rfl (by rw [List.length_map]; have := HLE.out; omega) (by rw [List.length_map]; unfold maxLen; have := HLE.out; omega) ?_; intro v5 w5 hr5 hc5 ho5; have HR5 := Aside0.mk hr5; have HC5 := Aside0.mk hc5; have HO5 := Aside0.mk ho5; clear hr5 hc5 ho5)
      have hgT : ∀ i, i ∈ (Value.slice A5 done.length c5).ownBlock.toList → w2.heap.size ≤ i := fun i hi => HG.out i (by simpa using hi)
      have hz2 := HZ2.out
      have hrr := HRR.out
      have hz3 : w2.heap.size ≤ w3.heap.size := HC3.out.size
      have hrow : ORow w5 9 v5 ((done ++ [k]).map Value.string) := by rw [List.map_append]; exact HR5.out
      obtain ⟨A6, c6, e6, _⟩ := hrow.slice
      refine ⟨⟨done ++ [k], ⟨(HR3.out.chg ((Chg.refl [] w3).alloc _) (by simp) (by simp)).chg HC5.out (fun h => by have := hgT _ h; omega) (fun h => by have := hgT _ h; omega)⟩, ⟨hrow⟩, ⟨fun g hg => ?_⟩, ⟨(HC3.out.alloc _).above HC5.out (fun i hi => .inr (hgT i hi))⟩⟩, ?_⟩
      · rcases HO5.out with q | q
        · exact HG.out g (by rw [← q]; exact hg)
        · rw [hg] at q
          have : g = _ := (by injection q)
          rw [this, size_alloc]; omega
      · rw [e6]
        show S.length - _ < S.length - done.length
        rw [List.length_map, List.length_append, List.length_singleton]
        omega
end Go.Proofs.YthecfligfhpccaaDoor.Li
namespace Go.Proofs.YthecfligfhpccaaDoor.P
open Go.RowKit Go.Proofs.YthecfligfhpccaaDoorW.PrintWords Go.Proofs.YthecfligfhpccaaDoorW.PrintLast Go.Proofs.YthecfligfhpccaaDoorW.PrintMore Go.Proofs.YthecfligfhpccaaDoor.Gn Go.Proofs.YthecfligfhpccaaDoor.Li
def goodPl (x : ByteArray) (kw : List ByteArray) : Prop := x.size ≤ 1000 ∧ kw.length ≤ 1000 ∧ ∀ p ∈ kw, 1 ≤ p.size ∧ p.size ≤ 1000
instance (x : ByteArray) (kw : List ByteArray) : Decidable (goodPl x kw) := by unfold goodPl; exact inferInstance
def impl_Places.f (x : ByteArray) (kw : List ByteArray) : Option (List (List Int)) := if goodPl x kw then some (placesOf (foldM (bytesOf x) kw) kw) else none
def impl_PlacesSorted.f (x : ByteArray) (kw : List ByteArray) : Option (List ByteArray) := if goodPl x kw then some (isort ((foldM (bytesOf x) kw).map (·.1))) else none
theorem impl_Places.calls (x : ByteArray) (A1 : Option Addr) (c1 : Nat) (kw : List ByteArray) (r : List (List Int)) (w : World) (hr1 : Kd.C Kd.string w A1 kw.length kw) (hc1 : kw.length ≤ c1) (h : impl_Places.f x kw = some r) :
    Calls Tryd.prog 16 #[.string x, .slice A1 kw.length c1] w fun e w' => ∃ v0_ : Value, e = .returned v0_ ∧ Kd.S (Kd.slice 3 (Kd.int .i64)) 37 w' w.heap.size (fun _ => True) v0_ r ∧ Below w.heap.size w w' := by
  unfold impl_Places.f at h
  split at h
  case isFalse => cases h
  rename_i hok
  injection h with h
  subst h
  exact (places_calls w x A1 c1 kw hr1 hc1 hok.1 hok.2.1 hok.2.2).mono fun e w' h => h
theorem impl_PlacesSorted.calls (x : ByteArray) (A1 : Option Addr) (c1 : Nat) (kw : List ByteArray) (r : List ByteArray) (w : World) (hr1 : Kd.C Kd.string w A1 kw.length kw) (hc1 : kw.length ≤ c1) (h : impl_PlacesSorted.f x kw = some r) :
    Calls Tryd.prog 13 #[.string x, .slice A1 kw.length c1] w fun e w' => ∃ v0_ : Value, e = .returned v0_ ∧ Kd.R Kd.string 9 w' w.heap.size (fun _ => True) v0_ r ∧ Below w.heap.size w w' := by
  unfold impl_PlacesSorted.f at h
  split at h
  case isFalse => cases h
  rename_i hok
  injection h with h
  subst h
  exact (placesSorted_calls w x A1 c1 kw hr1 hc1 hok.1 hok.2.1 hok.2.2).mono fun e w' h => h
end Go.Proofs.YthecfligfhpccaaDoor.P
