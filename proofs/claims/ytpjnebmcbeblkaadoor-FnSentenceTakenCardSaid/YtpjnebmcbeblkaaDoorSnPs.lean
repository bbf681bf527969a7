/- A text's signs, plain: what 'signs' tells, of what the decoder tells. -/
import Derived.Test.YtpjnebmcbeblkaaDoorSnPl
import Derived.Test.YtpjnebmcbeblkaaDoorXClS
import Derived.Test.YtpjnebmcbeblkaaDoorP11
import Derived.Lib.MapLaws
set_option linter.unusedVariables false
namespace Go.Proofs.YtpjnebmcbeblkaaDoor.Sn
open Go.RowKit Go.Lib Go.Proofs.YtpjnebmcbeblkaaDoorW.PrintWords Go.Proofs.YtpjnebmcbeblkaaDoorW.PrintLast Go.Proofs.YtpjnebmcbeblkaaDoorW.PrintMore Go.Proofs.YtpjnebmcbeblkaaDoor.P Go.Proofs.YtpjnebmcbeblkaaDoor.X
/-- The first sign. -/
def dec (x : ByteArray) : Nat × Nat := Lib.decodeGo x
def Valid (x : ByteArray) : Prop := ¬ ((dec x).1 = 65533 ∧ (dec x).2 = 1)
theorem sg_suf (s : ByteArray) (p : Nat) : sg s p = dec (s.extract p s.size) := rfl
theorem dec_L (x : ByteArray) (h : 0 < x.size) : dec x = decodeL x.toList := by
  unfold dec decodeGo decodeL
  rw [if_neg (by omega), ByteArray.toList_eq]
theorem toList_len (x : ByteArray) : x.toList.length = x.size := by rw [ByteArray.toList_eq, Array.length_toList]; rfl
theorem extract_toList (x : ByteArray) (n : Nat) : (x.extract 0 n).toList = x.toList.take n := by
  rw [ByteArray.toList_eq, ByteArray.toList_eq, ByteArray.data_extract, Array.toList_extract]
  simp [List.extract]
theorem sign_inj {x y : ByteArray} (hx : 0 < x.size) (hy : 0 < y.size) (vx : Valid x) (vy : Valid y) (h : (dec x).1 = (dec y).1) : (x.extract 0 (dec x).2).toList = (y.extract 0 (dec y).2).toList := by
  have ne : ∀ z : ByteArray, 0 < z.size → z.toList ≠ [] := fun z hz e => by have := toList_len z; rw [e] at this; simp at this; omega
  unfold Valid at vx vy
  rw [extract_toList, extract_toList]
  rw [dec_L x hx] at h vx ⊢
  rw [dec_L y hy] at h vy ⊢
  rw [← encode_decode _ (ne x hx) vx, ← encode_decode _ (ne y hy) vy, h]
theorem bt_get (x : ByteArray) (j : Nat) : bt x (j : Int) = ((x.get! j).toNat : Int) := by
  unfold bt
  show (if h : j < x.size then _ else _) = _
  split
  · rename_i h
    show ((x.data[j]'h).toNat : Int) = ((x.data[j]!).toNat : Int)
    rw [getElem!_pos x.data j h]
  · rename_i h
    show _ = ((x.data[j]!).toNat : Int)
    rw [getElem!_neg x.data j h]
    rfl
theorem size_l0_val (s : ByteArray) (n : Int) : ∀ (k : Nat) (i r : Int), laws_size.l0 k s n i = some r → 2 ≤ i → n ≤ 4 → r ≠ 0 → r = n ∧ ∀ j : Int, i ≤ j → j < n → 128 ≤ bt s j ∧ bt s j ≤ 191
  | 0, i, r, h, _, _, _ => by simp [laws_size.l0] at h
  | k + 1, i, r, h, h2, h4, hr => by
    rw [laws_size.l0] at h
    by_cases c1 : i < n
    · rw [if_pos c1] at h
      by_cases c2 : 0 ≤ i
      · rw [if_pos c2] at h
        by_cases c3 : i < (s.size : Int)
        · rw [if_pos c3] at h
          by_cases c4 : bt s i < 128
          · rw [if_pos c4] at h; injection h with h; exact absurd h.symm hr
          · rw [if_neg c4] at h
            by_cases c5 : bt s i > 191
            · rw [if_pos c5] at h; injection h with h; exact absurd h.symm hr
            · rw [if_neg c5, wr1 (by omega) (by omega)] at h
              obtain ⟨e1, e2⟩ := size_l0_val s n k (i + 1) r h (by omega) h4 hr
              refine ⟨e1, fun j hj hjn => ?_⟩
              by_cases e : j = i
              · subst e; omega
              · exact e2 j (by omega) hjn
        · rw [if_neg c3] at h; cases h
      · rw [if_neg c2] at h; cases h
    · rw [if_neg c1] at h
      injection h with h
      exact ⟨h.symm, fun j hj hjn => by omega⟩
theorem size_j3_val (s : ByteArray) (n lo hi : Int) (k : Nat) (r : Int) (h : laws_size.j3 k s n lo hi = some r) (h4 : n ≤ 4) (hr : r ≠ 0) : n ≠ 0 ∧ n ≤ s.size ∧ lo ≤ bt s 1 ∧ bt s 1 ≤ hi ∧ r = n ∧ ∀ j : Int, 2 ≤ j → j < n → 128 ≤ bt s j ∧ bt s j ≤ 191 := by
  have j4t : ∀ k, ¬ laws_size.j4 k s n true = some r := fun k g => by
    cases k with
    | zero => simp [laws_size.j4] at g
    | succ k => rw [laws_size.j4, if_pos rfl] at g; injection g with g; exact hr g.symm
  have j4f : ∀ k, laws_size.j4 k s n false = some r → r = n ∧ ∀ j : Int, 2 ≤ j → j < n → 128 ≤ bt s j ∧ bt s j ≤ 191 := fun k g => by
    cases k with
    | zero => simp [laws_size.j4] at g
    | succ k => rw [laws_size.j4, if_neg (by decide)] at g; exact size_l0_val s n k 2 r g (by omega) h4 hr
  cases k with
  | zero => simp [laws_size.j3] at h
  | succ k =>
    rw [laws_size.j3] at h
    by_cases c1 : n = 0
    · rw [if_pos c1] at h; exact absurd h (j4t k)
    · rw [if_neg c1] at h
      by_cases c2 : (s.size : Int) < n
      · rw [if_pos c2] at h; exact absurd h (j4t k)
      · rw [if_neg c2] at h
        by_cases c3 : 1 < (s.size : Int)
        · rw [if_pos c3] at h
          by_cases c4 : bt s 1 < lo
          · rw [if_pos c4] at h; exact absurd h (j4t k)
          · rw [if_neg c4] at h
            by_cases c5 : bt s 1 > hi
            · rw [decide_eq_true c5] at h; exact absurd h (j4t k)
            · rw [decide_eq_false c5] at h
              obtain ⟨e1, e2⟩ := j4f k h
              exact ⟨c1, by omega, by omega, by omega, e1, e2⟩
        · rw [if_neg c3] at h; cases h
/-- What the size of a first sign tells. -/
def Shape (s : ByteArray) (c n : Int) : Prop :=
  ∃ lo hi, (c = 224 ∧ lo = 160 ∧ hi = 191 ∨ c = 237 ∧ lo = 128 ∧ hi = 159 ∨ c = 240 ∧ lo = 144 ∧ hi = 191 ∨ c = 244 ∧ lo = 128 ∧ hi = 143 ∨ (c ≠ 224 ∧ c ≠ 237 ∧ c ≠ 240 ∧ c ≠ 244) ∧ lo = 128 ∧ hi = 191) ∧ n ≠ 0 ∧ n ≤ s.size ∧ lo ≤ bt s 1 ∧ bt s 1 ≤ hi ∧ ∀ j : Int, 2 ≤ j → j < n → 128 ≤ bt s j ∧ bt s j ≤ 191
theorem size_j2_val (s : ByteArray) (c n : Int) (k : Nat) (r : Int) (h : laws_size.j2 k s c n 128 191 = some r) (h4 : n ≤ 4) (hr : r ≠ 0) : r = n ∧ Shape s c n := by
  cases k with
  | zero => simp [laws_size.j2] at h
  | succ k =>
    rw [laws_size.j2] at h
    by_cases c1 : c = 224
    · rw [if_pos c1] at h; obtain ⟨e1, e2, e3, e4, e5, e6⟩ := size_j3_val s n _ _ k r h h4 hr; exact ⟨e5, _, _, .inl ⟨c1, rfl, rfl⟩, e1, e2, e3, e4, e6⟩
    · rw [if_neg c1] at h
      by_cases c2 : c = 237
      · rw [if_pos c2] at h; obtain ⟨e1, e2, e3, e4, e5, e6⟩ := size_j3_val s n _ _ k r h h4 hr; exact ⟨e5, _, _, .inr (.inl ⟨c2, rfl, rfl⟩), e1, e2, e3, e4, e6⟩
      · rw [if_neg c2] at h
        by_cases c3 : c = 240
        · rw [if_pos c3] at h; obtain ⟨e1, e2, e3, e4, e5, e6⟩ := size_j3_val s n _ _ k r h h4 hr; exact ⟨e5, _, _, .inr (.inr (.inl ⟨c3, rfl, rfl⟩)), e1, e2, e3, e4, e6⟩
        · rw [if_neg c3] at h
          by_cases c4 : c = 244
          · rw [if_pos c4] at h; obtain ⟨e1, e2, e3, e4, e5, e6⟩ := size_j3_val s n _ _ k r h h4 hr; exact ⟨e5, _, _, .inr (.inr (.inr (.inl ⟨c4, rfl, rfl⟩))), e1, e2, e3, e4, e6⟩
          · rw [if_neg c4] at h; obtain ⟨e1, e2, e3, e4, e5, e6⟩ := size_j3_val s n _ _ k r h h4 hr; exact ⟨e5, _, _, .inr (.inr (.inr (.inr ⟨⟨c1, c2, c3, c4⟩, rfl, rfl⟩))), e1, e2, e3, e4, e6⟩
/-- The size of a first sign, in one word. -/
theorem size_val (s : ByteArray) (k : Nat) (r : Int) (h : laws_size.f k s = some r) (hr : r ≠ 0) :
    0 < s.size ∧ ((bt s 0 < 128 ∧ r = 1) ∨ ∃ n, r = n ∧ Shape s (bt s 0) n ∧ ((194 ≤ bt s 0 ∧ bt s 0 ≤ 223 ∧ n = 2) ∨ (224 ≤ bt s 0 ∧ bt s 0 ≤ 239 ∧ n = 3) ∨ (240 ≤ bt s 0 ∧ bt s 0 ≤ 244 ∧ n = 4))) := by
  unfold laws_size.f at h
  by_cases c0 : 0 < (s.size : Int)
  · rw [if_pos c0] at h
    refine ⟨by omega, ?_⟩
    by_cases c1 : bt s 0 < 128
    · rw [if_pos c1] at h; injection h with h; exact .inl ⟨c1, h.symm⟩
    · rw [if_neg c1] at h
      refine .inr ?_
      have j2z : ∀ k, ¬ laws_size.j2 k s (bt s 0) 0 128 191 = some r := fun k g => by
        obtain ⟨_, lo, hi, _, e, _⟩ := size_j2_val s _ 0 k r g (by omega) hr
        exact e rfl
      have j1 : ∀ k b, laws_size.j1 k s (bt s 0) 0 128 191 b = some r → (b = true ∨ 240 ≤ bt s 0 ∧ bt s 0 ≤ 244) ∧ ∃ n, r = n ∧ Shape s (bt s 0) n ∧ ((b = true ∧ n = 3) ∨ (b = false ∧ n = 4)) := fun k b g => by
        cases k with
        | zero => simp [laws_size.j1] at g
        | succ k =>
          rw [laws_size.j1] at g
          cases b with
          | true => rw [if_pos rfl] at g; obtain ⟨e1, e2⟩ := size_j2_val s _ 3 k r g (by omega) hr; exact ⟨.inl rfl, 3, e1, e2, .inl ⟨rfl, rfl⟩⟩
          | false =>
            rw [if_neg (by decide)] at g
            by_cases d1 : bt s 0 ≥ 240
            · rw [if_pos d1] at g
              by_cases d2 : bt s 0 ≤ 244
              · rw [if_pos d2] at g; obtain ⟨e1, e2⟩ := size_j2_val s _ 4 k r g (by omega) hr; exact ⟨.inr ⟨d1, d2⟩, 4, e1, e2, .inr ⟨rfl, rfl⟩⟩
              · rw [if_neg d2] at g; exact absurd g (j2z k)
            · rw [if_neg d1] at g; exact absurd g (j2z k)
      have j0 : ∀ k b, laws_size.j0 k s (bt s 0) 0 128 191 b = some r → (b = false ∨ (194 ≤ bt s 0 ∧ bt s 0 ≤ 223)) → ∃ n, r = n ∧ Shape s (bt s 0) n ∧ ((194 ≤ bt s 0 ∧ bt s 0 ≤ 223 ∧ n = 2) ∨ (224 ≤ bt s 0 ∧ bt s 0 ≤ 239 ∧ n = 3) ∨ (240 ≤ bt s 0 ∧ bt s 0 ≤ 244 ∧ n = 4)) := fun k b g hb => by
        cases k with
        | zero => simp [laws_size.j0] at g
        | succ k =>
          rw [laws_size.j0] at g
          cases b with
          | true => rw [if_pos rfl] at g; obtain ⟨e1, e2⟩ := size_j2_val s _ 2 k r g (by omega) hr; exact ⟨2, e1, e2, .inl (by rcases hb with hb | hb; cases hb; omega)⟩
          | false =>
            rw [if_neg (by decide)] at g
            by_cases d1 : bt s 0 ≥ 224
            · rw [if_pos d1] at g
              obtain ⟨e0, n, e1, e2, e3⟩ := j1 k _ g
              refine ⟨n, e1, e2, ?_⟩
              rcases e3 with ⟨e3, e4⟩ | ⟨e3, e4⟩
              · have := of_decide_eq_true e3; exact .inr (.inl ⟨d1, this, e4⟩)
              · have := of_decide_eq_false e3
                rcases e0 with e0 | e0
                · rw [e0] at e3; cases e3
                · exact .inr (.inr ⟨e0.1, e0.2, e4⟩)
            · rw [if_neg d1] at g
              obtain ⟨e0, n, e1, e2, e3⟩ := j1 k _ g
              rcases e0 with e0 | e0
              · cases e0
              · omega
      by_cases c2 : bt s 0 ≥ 194
      · rw [if_pos c2] at h
        refine j0 k _ h ?_
        by_cases c3 : bt s 0 ≤ 223
        · exact .inr ⟨c2, c3⟩
        · exact .inl (decide_eq_false c3)
      · rw [if_neg c2] at h; exact j0 k _ h (.inl rfl)
  · rw [if_neg c0] at h; cases h
theorem size_dec (s : ByteArray) (k : Nat) (r : Int) (h : laws_size.f k s = some r) (hr : r ≠ 0) : 0 < s.size ∧ r = ((dec s).2 : Int) ∧ Valid s := by
  obtain ⟨h0, hs⟩ := size_val s k r h hr
  refine ⟨h0, ?_⟩
  have hd : dec s = decodeN s.size (s.get! 0).toNat (s.get! 1).toNat (s.get! 2).toNat (s.get! 3).toNat := by
    unfold dec decodeGo
    rw [if_neg (by omega), decode_at]
    rfl
  unfold Valid
  rw [hd]
  have e0 : bt s 0 = ((s.get! 0).toNat : Int) := bt_get s 0
  have e1 : bt s 1 = ((s.get! 1).toNat : Int) := bt_get s 1
  have e2 : bt s 2 = ((s.get! 2).toNat : Int) := bt_get s 2
  have e3 : bt s 3 = ((s.get! 3).toNat : Int) := bt_get s 3
  have l0 := UInt8.toNat_lt (s.get! 0)
  have l1 := UInt8.toNat_lt (s.get! 1)
  have l2 := UInt8.toNat_lt (s.get! 2)
  have l3 := UInt8.toNat_lt (s.get! 3)
  generalize (s.get! 0).toNat = b0 at *
  generalize (s.get! 1).toNat = b1 at *
  generalize (s.get! 2).toNat = b2 at *
  generalize (s.get! 3).toNat = b3 at *
  rcases hs with ⟨c1, rfl⟩ | ⟨n, rfl, ⟨lo, hi, sh, n0, ns, m1, m2, m3⟩, q⟩
  · have : decodeN s.size b0 b1 b2 b3 = (b0, 1) := by unfold decodeN; rw [if_pos (by omega)]
    rw [this]
    exact ⟨rfl, by simp; omega⟩
  · rw [e0] at sh q
    rw [e1] at m1 m2
    have f2 := m3 2 (by omega)
    have f3 := m3 3 (by omega)
    rw [e2] at f2
    rw [e3] at f3
    rcases q with ⟨q1, q2, rfl⟩ | ⟨q1, q2, rfl⟩ | ⟨q1, q2, rfl⟩
    · have : decodeN s.size b0 b1 b2 b3 = (b0 % 32 * 64 + b1 % 64, 2) := by
        unfold decodeN
        repeat' split
        all_goals first | (exfalso; omega) | rfl
      rw [this]
      exact ⟨rfl, by simp⟩
    · have f2 := f2 (by omega)
      have : decodeN s.size b0 b1 b2 b3 = (b0 % 16 * 4096 + b1 % 64 * 64 + b2 % 64, 3) := by
        unfold decodeN
        repeat' split
        all_goals first | (exfalso; omega) | rfl
      rw [this]
      exact ⟨rfl, by simp⟩
    · have f2 := f2 (by omega)
      have f3 := f3 (by omega)
      have : decodeN s.size b0 b1 b2 b3 = (b0 % 8 * 262144 + b1 % 64 * 4096 + b2 % 64 * 64 + b3 % 64, 4) := by
        unfold decodeN
        repeat' split
        all_goals first | (exfalso; omega) | rfl
      rw [this]
      exact ⟨rfl, by simp⟩
/-- l are the signs of x, all valid. -/
def Chk : List ByteArray → ByteArray → Prop
  | [], x => x.size = 0
  | c :: l, x => 0 < x.size ∧ Valid x ∧ c = x.extract 0 (dec x).2 ∧ Chk l (x.extract (dec x).2 x.size)
theorem signs_val : ∀ (k : Nat) (x : ByteArray) (acc l : List ByteArray), laws_signs.l0 k x acc = some (l, true) → ∃ l', l = acc ++ l' ∧ Chk l' x
  | 0, x, acc, l, h => by simp [laws_signs.l0] at h
  | k + 1, x, acc, l, h => by
    rw [laws_signs.l0] at h
    by_cases c0 : x.toList = ([] : List UInt8)
    · rw [if_pos c0] at h
      injection h with h
      simp only [Prod.mk.injEq] at h
      have := toList_len x
      rw [c0] at this
      exact ⟨[], by simp [h.1], this.symm⟩
    · rw [if_neg c0] at h
      obtain ⟨n, hn, h⟩ := Option.bind_eq_some_iff.1 h
      by_cases c1 : n = 0
      · rw [if_pos c1] at h; injection h with h; simp at h
      · rw [if_neg c1] at h
        obtain ⟨h0, e, hv⟩ := size_dec x k n hn c1
        repeat' split at h
        all_goals try cases h
        obtain ⟨l', e1, e2⟩ := signs_val k _ _ l h
        have en : n.toNat = (dec x).2 := by omega
        rw [en] at e1 e2
        exact ⟨_ :: l', by rw [e1, List.append_assoc]; rfl, h0, hv, rfl, e2⟩
theorem signs_chk {k : Nat} {x : ByteArray} {l : List ByteArray} (h : laws_signs.f k x = some (l, true)) : Chk l x := by
  obtain ⟨l', e, h⟩ := signs_val k x [] l h
  rw [List.nil_append] at e
  rw [e]
  exact h
/-- The suffix's suffix. -/
theorem suf_suf (s : ByteArray) (p n : Nat) (h : p + n ≤ s.size) : (s.extract p s.size).extract n (s.extract p s.size).size = s.extract (p + n) s.size := by
  have hz : (s.extract p s.size).size = s.size - p := by rw [ByteArray.size_extract]; omega
  rw [hz, ByteArray.extract_extract]
  congr 1
  omega
/-- Each code point of a valid text is one of its signs'. -/
theorem runes_mem (s : ByteArray) : ∀ (l : List ByteArray) (k p : Nat), Chk l (s.extract p s.size) → p ≤ s.size → ∀ r ∈ runesL s k p, ∃ c ∈ l, ∃ x, 0 < x.size ∧ Valid x ∧ c = x.extract 0 (dec x).2 ∧ r = ((dec x).1 : Int)
  | [], k, p, h, hp, r, hr => by
    have hz : (s.extract p s.size).size = s.size - p := by rw [ByteArray.size_extract]; omega
    have h : (s.extract p s.size).size = 0 := h
    cases k with
    | zero => cases hr
    | succ k => rw [runesL, if_neg (by omega)] at hr; cases hr
  | c :: l, k, p, h, hp, r, hr => by
    obtain ⟨h0, hv, hc, hl⟩ := h
    have hz : (s.extract p s.size).size = s.size - p := by rw [ByteArray.size_extract]; omega
    cases k with
    | zero => cases hr
    | succ k =>
      rw [runesL, if_pos (by omega)] at hr
      have hle := sg_le s p (by omega)
      rw [← sg_suf, suf_suf s p _ hle] at hl
      rcases List.mem_cons.1 hr with hr | hr
      · exact ⟨c, List.mem_cons_self, _, h0, hv, hc, hr⟩
      · obtain ⟨c', hc', hx⟩ := runes_mem s l k _ hl hle r hr
        exact ⟨c', List.mem_cons_of_mem _ hc', hx⟩
end Go.Proofs.YtpjnebmcbeblkaaDoor.Sn
