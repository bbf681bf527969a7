/- The parts of a text, plain: a part, split by itself, is one part. -/
import Derived.Test.YthecfligfhpccaaDoorPaPl
import Derived.KernelRfl
set_option linter.unusedVariables false
namespace Go.Proofs.YthecfligfhpccaaDoor.Pa
open Go.RowKit Go.Lib
set_option maxRecDepth 100000 in
theorem err_letter : isLetterU 65533 = false := by kernel_rfl
set_option maxRecDepth 100000 in
theorem err_number : isNumberU 65533 = false := by kernel_rfl
theorem caps : ∀ b : Fin 26, isLetterU (((65 + b.val : Nat)) : Int) = true ∧ isNumberU (((65 + b.val : Nat)) : Int) = false ∧ isLetterU (((97 + b.val : Nat)) : Int) = true := by decide
theorem stk_err (o : Opt) (n : Nat) : stk o (65533, n) = false := by
  unfold stk
  show (decide (n ≤ 2) && ((isLetterU 65533 && !o.alpha) || (isNumberU 65533 && !o.num))) = false
  rw [err_letter, err_number]
  simp
theorem stk_low (o : Opt) (b : Nat) (h1 : 65 ≤ b) (h2 : b ≤ 90) (h : stk o (b, 1) = true) : stk o (b + 32, 1) = true := by
  obtain ⟨q1, q2, q3⟩ := caps ⟨b - 65, by omega⟩
  have e1 : ((65 + (b - 65) : Nat) : Int) = (b : Int) := by omega
  have e2 : ((97 + (b - 65) : Nat) : Int) = ((b + 32 : Nat) : Int) := by omega
  dsimp only at q1 q2 q3
  rw [e1] at q1 q2
  rw [e2] at q3
  unfold stk at h ⊢
  dsimp only at h ⊢
  rw [q1, q2] at h
  rw [q3]
  simp at h ⊢
  exact .inl h
theorem low_low (s : ByteArray) : low (low s) = low s := by
  unfold low
  congr 1
  simp only [Array.map_map]
  apply Array.map_congr_left
  intro c _
  show lowB (lowB c) = lowB c
  have h1 := lowB_toNat c
  have h2 := lowB_toNat (lowB c)
  rw [h1] at h2
  apply UInt8.toNat_inj.1
  have h3 : lowI (lowI (c.toNat : Int)) = lowI (c.toNat : Int) := by
    unfold lowI
    by_cases h : 65 ≤ (c.toNat : Int) ∧ (c.toNat : Int) ≤ 90
    · rw [if_pos h, if_neg (by omega)]
    · rw [if_neg h, if_neg h]
  omega
theorem ext_all (s : ByteArray) : s.extract 0 s.size = s := by
  cases s with
  | mk a =>
    show ByteArray.extract ⟨a⟩ 0 a.size = _
    have : (ByteArray.extract ⟨a⟩ 0 a.size).data = a := by rw [ByteArray.data_extract]; simp
    cases h : ByteArray.extract ⟨a⟩ 0 a.size with
    | mk b => rw [h] at this; simpa using this
theorem ext_get (s : ByteArray) (i j k : Nat) (h : i + k < j) (hj : j ≤ s.size) : (s.extract i j).get! k = s.get! (i + k) := by
  show (s.extract i j).data[k]! = s.data[i + k]!
  rw [ByteArray.data_extract]
  have hs : s.size = s.data.size := rfl
  have h3 : k < (s.data.extract i j).size := by rw [Array.size_extract]; omega
  rw [getElem!_pos _ k h3, getElem!_pos _ (i + k) (by omega), Array.getElem_extract]
theorem low_get (s : ByteArray) (k : Nat) (h : k < s.size) : (((low s).get! k).toNat : Int) = lowI ((s.get! k).toNat : Int) := byt_low s k h
theorem ext_size (s : ByteArray) (i j : Nat) (h : i ≤ j) (hj : j ≤ s.size) : (s.extract i j).size = j - i := by rw [ByteArray.size_extract]; omega
/-- What a sign is hangs on its own bytes alone. -/
theorem decodeN_own (n0 m b0 b1 b2 b3 c1 c2 c3 r k : Nat) (h : decodeN n0 b0 b1 b2 b3 = (r, k)) (hm : k ≤ m) (hm1 : k = 1 → r = 65533 → m = 1) (h1 : 1 < k → c1 = b1) (h2 : 2 < k → c2 = b2) (h3 : 3 < k → c3 = b3) (hb : 128 ≤ b0 → 1 ≤ k) : decodeN m b0 c1 c2 c3 = (r, k) := by
  unfold decodeN at h
  have herr : (65533, 1) = (r, k) → 128 ≤ b0 → decodeN m b0 c1 c2 c3 = (r, k) := fun e h0 => by
    have e1 : r = 65533 := (congrArg Prod.fst e).symm
    have e2 : k = 1 := (congrArg Prod.snd e).symm
    have hm := hm1 e2 e1
    subst hm e1 e2
    unfold decodeN
    rw [if_neg (by omega), if_neg (fun g => absurd g.2.1 (by omega)), if_neg (fun g => absurd g.2.1.1 (by omega)), if_neg (fun g => absurd g.2.1.1 (by omega))]
  by_cases a0 : b0 < 128
  · rw [if_pos a0] at h
    unfold decodeN
    rw [if_pos a0]
    exact h
  · rw [if_neg a0] at h
    by_cases a1 : b0 / 32 = 6 ∧ (1 < n0 ∧ b1 / 64 = 2)
    · rw [if_pos a1] at h
      by_cases v : b0 % 32 * 64 + b1 % 64 ≥ 128
      · rw [if_pos v] at h
        have e2 : k = 2 := (congrArg Prod.snd h).symm
        have q1 := h1 (by omega)
        rw [e2] at hm
        unfold decodeN
        rw [if_neg a0, q1, if_pos ⟨a1.1, by omega, a1.2.2⟩, if_pos v]
        exact h
      · rw [if_neg v] at h
        exact herr h (by omega)
    · rw [if_neg a1] at h
      by_cases a2 : b0 / 16 = 14 ∧ (1 < n0 ∧ b1 / 64 = 2) ∧ (2 < n0 ∧ b2 / 64 = 2)
      · rw [if_pos a2] at h
        split at h
        · rename_i v
          have e2 : k = 3 := (congrArg Prod.snd h).symm
          have q1 := h1 (by omega)
          have q2 := h2 (by omega)
          rw [e2] at hm
          have a20 := a2.1
          unfold decodeN
          rw [if_neg a0, q1, q2, if_neg (fun g => absurd g.1 (by omega)), if_pos ⟨a2.1, ⟨by omega, a2.2.1.2⟩, by omega, a2.2.2.2⟩, if_pos v]
          exact h
        · exact herr h (by omega)
      · rw [if_neg a2] at h
        by_cases a3 : b0 / 8 = 30 ∧ (1 < n0 ∧ b1 / 64 = 2) ∧ (2 < n0 ∧ b2 / 64 = 2) ∧ (3 < n0 ∧ b3 / 64 = 2)
        · rw [if_pos a3] at h
          split at h
          · rename_i v
            have e2 : k = 4 := (congrArg Prod.snd h).symm
            have q1 := h1 (by omega)
            have q2 := h2 (by omega)
            have q3 := h3 (by omega)
            rw [e2] at hm
            have a30 := a3.1
            unfold decodeN
            rw [if_neg a0, q1, q2, q3, if_neg (fun g => absurd g.1 (by omega)), if_neg (fun g => absurd g.1 (by omega)), if_pos ⟨a3.1, ⟨by omega, a3.2.1.2⟩, ⟨by omega, a3.2.2.1.2⟩, by omega, a3.2.2.2.2⟩, if_pos v]
            exact h
          · exact herr h (by omega)
        · rw [if_neg a3] at h
          exact herr h (by omega)
/-- The sign at p alone is the sign. -/
theorem sg_alone (s : ByteArray) (p : Nat) (h : p < s.size) : sg (s.extract p (p + (sg s p).2)) 0 = sg s p := by
  have hp := sg_pos s p h
  have hl := sg_le s p h
  obtain ⟨x, hx⟩ : ∃ x, x = sg s p := ⟨_, rfl⟩
  rw [← hx] at hp hl ⊢
  obtain ⟨r, n⟩ := x
  dsimp only at hp hl ⊢
  have hz := ext_size s p (p + n) (by omega) hl
  have hn : p + n - p = n := by omega
  rw [sg_dec _ 0 (by omega), decode_at, hz, hn]
  rw [sg_dec s p h, decode_at] at hx
  have g0 : (s.extract p (p + n)).get! 0 = s.get! p := ext_get s p (p + n) 0 (by omega) hl
  rw [g0]
  exact decodeN_own _ _ _ _ _ _ _ _ _ _ _ hx.symm (by omega) (fun e _ => by omega) (fun g => by rw [ext_get s p (p + n) (0 + 1) (by omega) hl]) (fun g => by rw [ext_get s p (p + n) (0 + 2) (by omega) hl]) (fun g => by rw [ext_get s p (p + n) (0 + 3) (by omega) hl]) (fun _ => hp)
/-- A sign of a run that is lowered. -/
theorem sg_low (s : ByteArray) (o : Opt) (i j p : Nat) (hi : i ≤ p) (hp : p < j) (hj : j ≤ s.size) (hk : stk o (sg s p) = true) (hn : p + (sg s p).2 ≤ j) : stk o (sg (low (s.extract i j)) (p - i)) = true ∧ (sg (low (s.extract i j)) (p - i)).2 = (sg s p).2 := by
  have h1 := sg_pos s p (by omega)
  obtain ⟨x, hx⟩ : ∃ x, x = sg s p := ⟨_, rfl⟩
  rw [← hx] at hk hn h1 ⊢
  obtain ⟨r, n⟩ := x
  dsimp only at hn h1 ⊢
  have hn2 : n ≤ 2 := by
    unfold stk at hk
    simp at hk
    exact hk.1
  have hz : (low (s.extract i j)).size = j - i := by rw [low_size, ext_size s i j (by omega) hj]
  have hzE : (s.extract i j).size = j - i := ext_size s i j (by omega) hj
  rw [sg_dec s p (by omega), decode_at] at hx
  rw [sg_dec _ (p - i) (by omega), decode_at, hz]
  have g0 := low_get (s.extract i j) (p - i) (by omega)
  rw [ext_get s i j (p - i) (by omega) hj, show i + (p - i) = p by omega] at g0
  by_cases hb : (s.get! p).toNat < 128
  · have hx1 : (r, n) = ((s.get! p).toNat, 1) := by rw [hx]; unfold decodeN; rw [if_pos hb]
    have e1 : r = (s.get! p).toNat := congrArg Prod.fst hx1
    have e2 : n = 1 := congrArg Prod.snd hx1
    subst e2
    by_cases hc : 65 ≤ (s.get! p).toNat ∧ (s.get! p).toNat ≤ 90
    · have q : ((low (s.extract i j)).get! (p - i)).toNat = r + 32 := by
        unfold lowI at g0
        rw [if_pos (by omega)] at g0
        omega
      rw [q]
      unfold decodeN
      rw [if_pos (by omega)]
      exact ⟨stk_low o r (by omega) (by omega) hk, rfl⟩
    · have q : ((low (s.extract i j)).get! (p - i)).toNat = r := by
        unfold lowI at g0
        rw [if_neg (by omega)] at g0
        omega
      rw [q]
      unfold decodeN
      rw [if_pos (by omega)]
      exact ⟨hk, rfl⟩
  · have q : ((low (s.extract i j)).get! (p - i)).toNat = (s.get! p).toNat := by
      unfold lowI at g0
      rw [if_neg (by omega)] at g0
      omega
    have hr : ¬ r = 65533 := fun e => by
      rw [e, stk_err] at hk
      cases hk
    have hn3 : n = 2 := by
      have := hx
      unfold decodeN at this
      rw [if_neg hb] at this
      rcases (show n = 1 ∨ n = 2 by omega) with e | e
      · exfalso
        revert this
        repeat' split
        all_goals intro this
        all_goals have t1 := congrArg Prod.fst this
        all_goals have t2 := congrArg Prod.snd this
        all_goals dsimp only at t1 t2
        all_goals first | exact hr t1 | omega
      · exact e
    subst hn3
    have hb1 : 128 ≤ (s.get! (p + 1)).toNat := by
      have := hx
      unfold decodeN at this
      rw [if_neg hb] at this
      by_cases a1 : (s.get! p).toNat / 32 = 6 ∧ (1 < s.size - p ∧ (s.get! (p + 1)).toNat / 64 = 2)
      · omega
      · exfalso
        rw [if_neg a1] at this
        revert this
        repeat' split
        all_goals intro this
        all_goals have t2 := congrArg Prod.snd this
        all_goals dsimp only at t2
        all_goals omega
    have g1 := low_get (s.extract i j) (p - i + 1) (by omega)
    rw [ext_get s i j (p - i + 1) (by omega) hj, show i + (p - i + 1) = p + 1 by omega] at g1
    have q1 : ((low (s.extract i j)).get! (p - i + 1)).toNat = (s.get! (p + 1)).toNat := by
      unfold lowI at g1
      rw [if_neg (by omega)] at g1
      omega
    rw [q, q1, decodeN_own _ (j - i - (p - i)) _ _ _ _ _ _ _ _ _ hx.symm (by omega) (fun e => by omega) (fun _ => rfl) (fun e => by omega) (fun e => by omega) (fun _ => by omega)]
    exact ⟨hk, rfl⟩
/-- The signs from a to b are put together. -/
inductive Run (s : ByteArray) (o : Opt) : Nat → Nat → Prop
  | nil (a : Nat) : Run s o a a
  | cons (a b : Nat) : a < s.size → stk o (sg s a) = true → Run s o (a + (sg s a).2) b → Run s o a b
theorem Run.snoc {s : ByteArray} {o : Opt} {a b : Nat} (h : Run s o a b) (hb : b < s.size) (hk : stk o (sg s b) = true) : Run s o a (b + (sg s b).2) := by
  induction h with
  | nil a => exact .cons a _ hb hk (.nil _)
  | cons a b h1 h2 _ ih => exact .cons a _ h1 h2 (ih hb hk)
theorem Run.le {s : ByteArray} {o : Opt} {a b : Nat} (h : Run s o a b) : a ≤ b := by
  induction h with
  | nil a => exact Nat.le_refl _
  | cons a b h1 h2 _ ih => omega
/-- A run, lowered, is one part. -/
theorem run_one {s : ByteArray} {o : Opt} (ho : o.each = false) {i j : Nat} (hij : i < j) (hj : j ≤ s.size) : ∀ {a b : Nat}, Run s o a b → i ≤ a → b = j → ∀ k, j - a < k → go (low (s.extract i j)) o k (a - i) 0 true = [low (s.extract i j)] := by
  have hz : (low (s.extract i j)).size = j - i := by rw [low_size, ext_size s i j (by omega) hj]
  intro a b h
  induction h with
  | nil a =>
    intro ha hb k hk
    subst hb
    obtain ⟨k, rfl⟩ : ∃ m, k = m + 1 := ⟨k - 1, by omega⟩
    unfold go
    rw [if_neg (by omega), ho, if_pos (by rfl), if_pos (by omega)]
    have : (low (s.extract i a)).extract 0 (a - i) = low (s.extract i a) := by rw [← hz]; exact ext_all _
    rw [this, low_low]
  | cons a b h1 h2 h3 ih =>
    intro ha hb k hk
    have h4 := h3.le
    have h5 := sg_pos s a h1
    obtain ⟨q1, q2⟩ := sg_low s o i j a ha (by omega) hj h2 (by omega)
    obtain ⟨k, rfl⟩ : ∃ m, k = m + 1 := ⟨k - 1, by omega⟩
    unfold go
    rw [if_pos (by omega), if_pos q1, ho, if_neg (by simp), if_pos rfl, q2]
    have := ih (by omega) hb k (by omega)
    rwa [show a + (sg s a).2 - i = a - i + (sg s a).2 by omega] at this
/-- Each part, split by itself, is one part. -/
theorem go_one {s : ByteArray} {o : Opt} (ho : o.each = false) : ∀ (k cur st : Nat) (run : Bool), cur ≤ s.size → (run = true → Run s o st cur ∧ (cur = 0 ∨ st < cur)) → ∀ p ∈ go s o k cur st run, parts p o = [p] := by
  have hrun : ∀ (st cur : Nat), cur ≤ s.size → Run s o st cur → st < cur → parts (low (s.extract st cur)) o = [low (s.extract st cur)] := fun st cur hc h hlt => by
    have hz : (low (s.extract st cur)).size = cur - st := by rw [low_size, ext_size s st cur (by omega) hc]
    have := run_one ho hlt hc h (Nat.le_refl _) rfl ((low (s.extract st cur)).size + 1) (by omega)
    rw [Nat.sub_self] at this
    exact this
  have hone : ∀ cur, cur < s.size → stk o (sg s cur) = false → parts (s.extract cur (cur + (sg s cur).2)) o = [s.extract cur (cur + (sg s cur).2)] := fun cur hc hk => by
    have h1 := sg_pos s cur hc
    have h2 := sg_le s cur hc
    have h3 := sg_alone s cur hc
    have hz := ext_size s cur (cur + (sg s cur).2) (by omega) h2
    obtain ⟨p, hp⟩ : ∃ p, p = s.extract cur (cur + (sg s cur).2) := ⟨_, rfl⟩
    rw [← hp] at h3 hz ⊢
    have hzn : p.size = (sg s cur).2 := by omega
    unfold parts go
    rw [if_pos (by omega), h3, hk, if_neg (by simp), if_neg (by simp), Nat.zero_add]
    have he : p.extract 0 (sg s cur).2 = p := by rw [← hzn]; exact ext_all p
    rw [he]
    congr 1
    obtain ⟨m, hm⟩ : ∃ m, p.size = m + 1 := ⟨p.size - 1, by omega⟩
    rw [hm]
    unfold go
    rw [if_neg (by omega)]
    rfl
  intro k
  induction k with
  | zero => intro cur st run _ _ p hp; simp [go] at hp
  | succ k ih =>
    intro cur st run hc hr p hp
    unfold go at hp
    by_cases hlt : cur < s.size
    · have h1 := sg_pos s cur hlt
      have h2 := sg_le s cur hlt
      rw [if_pos hlt] at hp
      by_cases hk : stk o (sg s cur) = true
      · rw [if_pos hk, ho, if_neg (by simp)] at hp
        refine ih _ _ true h2 (fun _ => ?_) p hp
        cases run with
        | true =>
          obtain ⟨q1, q2⟩ := hr rfl
          rw [if_pos rfl]
          exact ⟨q1.snoc hlt hk, by have := q1.le; omega⟩
        | false =>
          rw [if_neg (by simp)]
          exact ⟨.cons cur _ hlt hk (.nil _), by omega⟩
      · rw [if_neg hk] at hp
        have hk' : stk o (sg s cur) = false := by simpa using hk
        split at hp
        · rename_i hcond
          simp only [List.mem_cons] at hp
          have hrt : run = true := by simp at hcond; exact hcond.1
          have hc0 : cur ≠ 0 := by simp at hcond; exact hcond.2.1
          obtain ⟨q1, q2⟩ := hr hrt
          rcases hp with rfl | rfl | hp
          · exact hrun st cur hc q1 (by omega)
          · exact hone cur hlt hk'
          · exact ih _ _ false h2 (fun h => by cases h) p hp
        · simp only [List.mem_cons] at hp
          rcases hp with rfl | hp
          · exact hone cur hlt hk'
          · exact ih _ _ false h2 (fun h => by cases h) p hp
    · rw [if_neg hlt] at hp
      split at hp
      · rename_i hcond
        split at hp
        · rename_i hc0
          have hrt : run = true := by simp at hcond; exact hcond.1
          obtain ⟨q1, q2⟩ := hr hrt
          rw [List.mem_singleton] at hp
          rw [hp]
          exact hrun st cur hc q1 (by omega)
        · cases hp
      · cases hp
end Go.Proofs.YthecfligfhpccaaDoor.Pa
