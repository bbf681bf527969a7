/- Plain words for filters' texts: clean strings, one list at the head of another, one text in another; the filters that the law lets by. -/
import Derived.Test.YthecfligfhpccaaEFilS
import Derived.Test.YthecfligfhpccaaXClean
import Derived.Test.YthecfligfhpccaaXSame
import Derived.Test.YthecfligfhpccaaP13
import Derived.Test.YthecfligfhpccaaEHeads
import Derived.Test.YthecfligfhpccaaP15
set_option linter.unusedVariables false
namespace Go.Proofs.Ythecfligfhpccaa.X
open Go.RowKit Go.Proofs.YthecfligfhpccaaW.PrintWords Go.Proofs.YthecfligfhpccaaW.PrintLast Go.Proofs.YthecfligfhpccaaW.PrintMore Go.Proofs.Ythecfligfhpccaa.P

theorem signs_len0 (d : Nat) : ∀ (s : ByteArray) (acc : List ByteArray), s.size ≤ d → acc.length + d ≤ 2147483648 → ∃ r, Ev (fun k => laws_signs.l0 k s acc) r ∧ r.1.length ≤ acc.length + d := by
  induction d with
  | zero =>
    intro s acc h1 h2
    have h0 : s.toList = ([] : List UInt8) := by
      rw [ByteArray.toList_eq]
      have : s.data.size = 0 := by have : s.size = s.data.size := rfl; omega
      exact List.length_eq_zero_iff.1 (by rw [Array.length_toList]; exact this)
    exact ⟨(acc, true), ev1 0 fun k _ => by simp only [laws_signs.l0]; rw [if_pos h0], by simp⟩
  | succ d ih =>
    intro s acc h1 h2
    by_cases h0 : s.toList = ([] : List UInt8)
    · exact ⟨(acc, true), ev1 0 fun k _ => by simp only [laws_signs.l0]; rw [if_pos h0], by simp⟩
    · obtain ⟨n, ⟨K, hK⟩, hn0, hn1⟩ := size_ev s (size_pos h0)
      dsimp only at hK
      by_cases c0 : n = 0
      · exact ⟨(([] : List ByteArray), false), ev1 K fun k hk => by simp only [laws_signs.l0]; rw [if_neg h0, hK k hk]; simp only [Option.bind_some]; rw [if_pos c0], by simp⟩
      · obtain ⟨r, ⟨K2, hK2⟩, hr⟩ := ih (s.extract n.toNat s.size) (acc ++ [s.extract 0 n.toNat]) (by rw [ByteArray.size_extract]; omega) (by simp; omega)
        exact ⟨r, ev1 (max K K2) fun k hk => by
          simp only [laws_signs.l0]
          rw [if_neg h0, hK k (by omega)]
          simp only [Option.bind_some]
          rw [if_neg c0, if_pos hn0, if_pos hn1, if_pos (by omega)]
          exact hK2 k (by omega), by simp at hr; omega⟩
theorem signs_len (s : ByteArray) (h : s.size ≤ 2147483647) : ∃ r, Ev (fun k => laws_signs.f k s) r ∧ r.1.length ≤ 2147483647 := by
  obtain ⟨r, ⟨K, hK⟩, hr⟩ := signs_len0 s.size s [] (Nat.le_refl _) (by simp; omega)
  exact ⟨r, ⟨K, fun k hk => by simp only [laws_signs.f]; exact hK k hk⟩, by simp at hr; omega⟩
theorem plain_l1 (s : ByteArray) (hs : s.size ≤ 2147483647) (x19 : List ByteArray) (x20 x21 : Int) (hnext : ∃ b, Ev (fun k => laws_plainOwn.l0 k x19 x20 (wrap64 (x21 + 1))) b) (d : Nat) : ∀ j : Nat, j + d = s.size → ∃ b, Ev (fun k => laws_plainOwn.l1 k s x19 x20 x21 (s.size : Int) (j : Int)) b := by
  obtain ⟨b0, K0, hK0⟩ := hnext
  induction d with
  | zero =>
    intro j hj
    obtain ⟨r, ⟨K, hK⟩, hr⟩ := signs_len s hs
    dsimp only at hK
    by_cases h0 : (r.1.length : Int) = 0
    · exact ⟨false, ev1 K fun k hk => by simp only [laws_plainOwn.l1]; rw [if_neg (by omega), hK k hk]; simp only [Option.bind_some]; rw [if_pos h0]⟩
    · have hw : wrap64 ((r.1.length : Int) - 1) = (r.1.length : Int) - 1 := by unfold wrap64; omega
      by_cases h1 : (rdOf ByteArray.empty r.1 0).toList = ([227, 128, 128] : List UInt8)
      · exact ⟨false, ev1 K fun k hk => by simp only [laws_plainOwn.l1]; rw [if_neg (by omega), hK k hk]; simp only [Option.bind_some]; rw [if_neg h0, if_pos (by omega), if_pos h1]⟩
      · by_cases h2 : (rdOf ByteArray.empty r.1 ((r.1.length : Int) - 1)).toList = ([227, 128, 128] : List UInt8)
        · exact ⟨false, ev1 K fun k hk => by simp only [laws_plainOwn.l1]; rw [if_neg (by omega), hK k hk]; simp only [Option.bind_some]; rw [if_neg h0, if_pos (by omega), if_neg h1, hw, if_pos (by omega), if_pos (by omega), if_pos h2]⟩
        · exact ⟨b0, ev1 (max K K0) fun k hk => by simp only [laws_plainOwn.l1]; rw [if_neg (by omega), hK k (by omega)]; simp only [Option.bind_some]; rw [if_neg h0, if_pos (by omega), if_neg h1, hw, if_pos (by omega), if_pos (by omega), if_neg h2]; exact hK0 k (by omega)⟩
  | succ d ih =>
    intro j hj
    obtain ⟨b, K, hK⟩ := ih (j + 1) (by omega)
    have hw : wrap64 ((j : Int) + 1) = ((j + 1 : Nat) : Int) := by rw [wr1 (by omega) (by omega)]; omega
    by_cases c1 : bt s (j : Int) < 128
    · by_cases c2 : Go.bits .or .u8 (bt s (j : Int)) 32 < 97
      · by_cases c3 : bt s (j : Int) < 48
        · exact ⟨false, ev1 0 fun k _ => by simp only [laws_plainOwn.l1]; rw [if_pos (by omega), if_pos (by omega), if_pos (by omega), if_pos c1, if_pos c2, if_pos c3]⟩
        · by_cases c4 : bt s (j : Int) > 57
          · exact ⟨false, ev1 0 fun k _ => by simp only [laws_plainOwn.l1]; rw [if_pos (by omega), if_pos (by omega), if_pos (by omega), if_pos c1, if_pos c2, if_neg c3, if_pos c4]⟩
          · exact ⟨b, ev1 K fun k hk => by simp only [laws_plainOwn.l1]; rw [if_pos (by omega), if_pos (by omega), if_pos (by omega), if_pos c1, if_pos c2, if_neg c3, if_neg c4, hw]; exact hK k hk⟩
      · by_cases c5 : Go.bits .or .u8 (bt s (j : Int)) 32 > 122
        · by_cases c3 : bt s (j : Int) < 48
          · exact ⟨false, ev1 0 fun k _ => by simp only [laws_plainOwn.l1]; rw [if_pos (by omega), if_pos (by omega), if_pos (by omega), if_pos c1, if_neg c2, if_pos c5, if_pos c3]⟩
          · by_cases c4 : bt s (j : Int) > 57
            · exact ⟨false, ev1 0 fun k _ => by simp only [laws_plainOwn.l1]; rw [if_pos (by omega), if_pos (by omega), if_pos (by omega), if_pos c1, if_neg c2, if_pos c5, if_neg c3, if_pos c4]⟩
            · exact ⟨b, ev1 K fun k hk => by simp only [laws_plainOwn.l1]; rw [if_pos (by omega), if_pos (by omega), if_pos (by omega), if_pos c1, if_neg c2, if_pos c5, if_neg c3, if_neg c4, hw]; exact hK k hk⟩
        · exact ⟨b, ev1 K fun k hk => by simp only [laws_plainOwn.l1]; rw [if_pos (by omega), if_pos (by omega), if_pos (by omega), if_pos c1, if_neg c2, if_neg c5, hw]; exact hK k hk⟩
    · exact ⟨b, ev1 K fun k hk => by simp only [laws_plainOwn.l1]; rw [if_pos (by omega), if_pos (by omega), if_pos (by omega), if_neg c1, hw]; exact hK k hk⟩
theorem plain_l0 (xs : List ByteArray) (hn : xs.length ≤ 2147483647) (hx : ∀ s ∈ xs, s.size ≤ 2147483647) (d : Nat) : ∀ i : Nat, i + d = xs.length → ∃ b, Ev (fun k => laws_plainOwn.l0 k xs (xs.length : Int) (i : Int)) b := by
  induction d with
  | zero => intro i hi; exact ⟨true, ev1 0 fun k _ => by simp only [laws_plainOwn.l0]; rw [if_neg (by omega)]⟩
  | succ d ih =>
    intro i hi
    have hlt : i < xs.length := by omega
    have hr := rdOf_nat ByteArray.empty xs i hlt
    obtain ⟨b, K, hK⟩ := plain_l1 xs[i] (hx _ (List.getElem_mem hlt)) xs (xs.length : Int) (i : Int) (by rw [wr1 (by omega) (by omega)]; exact ih (i + 1) (by omega)) xs[i].size 0 (by omega)
    exact ⟨b, ev1 K fun k hk => by simp only [laws_plainOwn.l0]; rw [if_pos (by omega), if_pos (by omega), if_pos (by omega), hr]; exact hK k hk⟩
theorem plain_ev (s t : ByteArray) (hs : s.size ≤ 2147483647) (ht : t.size ≤ 2147483647) : ∃ b, Ev (fun k => laws_plainOwn.f k s [] [] t) b := by
  obtain ⟨b, K, hK⟩ := plain_l0 [s, t] (by simp) (by
    intro x hx
    rcases List.mem_cons.1 hx with rfl | hx
    · exact hs
    · rw [List.mem_singleton.1 hx]; exact ht) 2 0 rfl
  refine ⟨b, K, fun k hk => ?_⟩
  simp only [laws_plainOwn.f, Option.bind_some]
  rw [if_pos (by simp)]
  try simp only [Option.bind_some]
  rw [if_pos (by simp)]
  try simp only [Option.bind_some]
  exact hK k hk
theorem heads_ev (a b : List ByteArray) (ha : a.length ≤ 2147483647) : ∃ c, Ev (fun k => laws_heads.f k a b) c ∧ (c = false → ¬ b <+: a) := by
  by_cases h : (b.length : Int) ≤ (a.length : Int)
  · obtain ⟨c, ⟨K, hK⟩, hc⟩ := sameTexts_ev (a.take b.length) b (by rw [List.length_take]; omega)
    refine ⟨c, ⟨K, fun k hk => ?_⟩, fun he hp => ?_⟩
    · have := hK k hk
      dsimp only at this
      simp only [laws_heads.f]
      rw [if_pos h, this]
    · have : c = true := hc.2 (List.prefix_iff_eq_take.1 hp).symm
      rw [he] at this
      cases this
  · exact ⟨false, ⟨0, fun k _ => by simp only [laws_heads.f]; rw [if_neg h]⟩, fun _ hp => by have := hp.length_le; omega⟩
theorem stands_l0 (s t : ByteArray) (hs : s.size ≤ 9223372036854775000) (at_ : Nat) (ha : at_ + t.size ≤ s.size) (he : (s.data.toList.drop at_).take t.size = t.data.toList) (d : Nat) : ∀ i : Nat, i + d = at_ → Ev (fun k => laws_stands.l0 k s t ((s.size : Int) + 1) (i : Int)) true := by
  have hb : ∀ i : Nat, i ≤ s.size → ∃ c, laws_begins.f (s.extract i s.size) t = some c ∧ (i = at_ → c = true) := by
    intro i hi
    have hsz : (s.extract i s.size).size = s.size - i := by rw [ByteArray.size_extract]; omega
    by_cases h : (t.size : Int) ≤ ((s.extract i s.size).size : Int)
    · refine ⟨_, by simp only [laws_begins.f]; rw [if_pos h, if_pos (by omega)], fun e => ?_⟩
      subst e
      rw [beq_iff_eq, ByteArray.toList_eq, ByteArray.toList_eq, Int.toNat_natCast]
      have h1 : ((s.extract i s.size).extract 0 t.size).data.toList = (s.data.toList.drop i).take t.size := by
        rw [ByteArray.data_extract, Array.toList_extract, ByteArray.data_extract, Array.toList_extract]
        simp only [List.extract_eq_take_drop, List.drop_zero, Nat.sub_zero]
        rw [List.take_take]
        congr 1
        omega
      rw [h1, he]
    · exact ⟨false, by simp only [laws_begins.f]; rw [if_neg h], fun e => by omega⟩
  induction d with
  | zero =>
    intro i hi
    obtain ⟨c, hc, h1⟩ := hb i (by omega)
    refine ev1 0 fun k _ => ?_
    simp only [laws_stands.l0]
    rw [if_pos (by omega), if_pos (by omega), if_pos (by omega), Int.toNat_natCast, hc, h1 (by omega)]
    rfl
  | succ d ih =>
    intro i hi
    obtain ⟨K, hK⟩ := ih (i + 1) (by omega)
    obtain ⟨c, hc, _⟩ := hb i (by omega)
    refine ev1 K fun k hk => ?_
    simp only [laws_stands.l0]
    rw [if_pos (by omega), if_pos (by omega), if_pos (by omega), Int.toNat_natCast, hc]
    simp only [Option.bind_some]
    split
    · rfl
    · rw [wr1 (by omega) (by omega)]
      exact hK k hk
theorem stands_ev (s t : ByteArray) (hs : s.size ≤ 9223372036854775000) (h : t.data.toList <:+: s.data.toList) : Ev (fun k => laws_stands.f k s t) true := by
  obtain ⟨a, b, hab⟩ := h
  have hl : a.length + t.size + b.length = s.size := by
    have := congrArg List.length hab
    rw [List.length_append, List.length_append, ← size_list, ← size_list] at this
    exact this
  obtain ⟨K, hK⟩ := stands_l0 s t hs a.length (by omega) (by rw [← hab, List.append_assoc, List.drop_left, size_list, List.take_left]) a.length 0 (by omega)
  refine ⟨K, fun k hk => ?_⟩
  simp only [laws_stands.f]
  rw [wr1 (by omega) (by omega)]
  exact hK k hk
end Go.Proofs.Ythecfligfhpccaa.X
