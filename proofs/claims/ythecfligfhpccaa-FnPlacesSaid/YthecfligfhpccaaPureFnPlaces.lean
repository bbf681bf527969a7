/- The places that are told of a part are all places of the text at which it stands, from its end, where no two of them overlap: for every text and parts. No condition. -/
import Derived.Test.YthecfligfhpccaaPlPl2
import Derived.Test.YthecfligfhpccaaXClean
import Derived.Test.YthecfligfhpccaaXSame
import Derived.Test.YthecfligfhpccaaP5
set_option linter.unusedVariables false
namespace Go.Proofs.Ythecfligfhpccaa.Pure
open Go.RowKit Go.Proofs.YthecfligfhpccaaW.PrintWords Go.Proofs.YthecfligfhpccaaW.PrintLast Go.Proofs.YthecfligfhpccaaW.PrintMore Go.Proofs.Ythecfligfhpccaa.P Go.Proofs.Ythecfligfhpccaa.X Go.Proofs.Ythecfligfhpccaa.Li
theorem bytesLess_eq (a b : ByteArray) : Op.bytesLess a.toList b.toList = decide (a.data.toList < b.data.toList) := by
  simp [Go.ByteArray.toList_eq, Go.Proofs.bytesLess_eq]
/-- The place at which s stands among sorted ones. -/
theorem inserted_l0 (l : List ByteArray) (s : ByteArray) (hl : l.length ≤ 1000) (d : Nat) : ∀ i : Nat, i + d = l.length → (insB s l = l.take i ++ insB s (l.drop i)) → Ev (fun k => laws_inserted.l0 k l s (i : Int)) (insB s l) := by
  have fin : ∀ i : Nat, i ≤ l.length → insB s l = l.take i ++ s :: l.drop i → ∀ k, laws_inserted.l0 (k + 1) l s (i : Int) = (if (i : Int) < (l.length : Int) then (if (Op.bytesLess ((rdOf ByteArray.empty l (i : Int)).toList) s.toList) = true then laws_inserted.l0 k l s (wrap64 ((i : Int) + 1)) else some (insB s l)) else some (insB s l)) := by
    intro i hi h k
    simp only [laws_inserted.l0]
    have e1 : ((i : Int)).toNat = i := by omega
    have e2 : (l.take i).length = i := by rw [List.length_take]; omega
    have e3 : ((i : Int) ≤ (l.length : Int)) := by omega
    have e4 : ([] ++ l.take i).length + ([s] : List ByteArray).length < 8796093022208 := by simp; omega
    have e5 : (([] ++ l.take i) ++ [s]).length + (l.drop i).length < 8796093022208 := by simp; omega
    have e6 : ([] : List ByteArray).length + (l.take i).length < 8796093022208 := by simp; omega
    have e7 : (([] ++ l.take i) ++ [s]) ++ l.drop i = insB s l := by rw [h]; simp
    simp only [Option.bind_some, e1]
    by_cases hlt : (i : Int) < (l.length : Int)
    · rw [if_pos hlt, if_pos hlt, if_pos (by omega)]
      split
      · rfl
      · rw [e7]
    · rw [if_neg hlt, if_neg hlt, if_pos e3, if_pos e6, if_pos e4, if_pos (by omega), if_pos e5, e7]
  induction d with
  | zero =>
    intro i hi h
    obtain rfl : i = l.length := by omega
    refine ⟨1, fun k hk => ?_⟩
    obtain ⟨m, rfl⟩ : ∃ m, k = m + 1 := ⟨k - 1, by omega⟩
    show laws_inserted.l0 (m + 1) l s (l.length : Int) = _
    rw [fin l.length (Nat.le_refl _) (by rw [h, List.drop_length]; rfl) m, if_neg (by omega)]
  | succ d ih =>
    intro i hi h
    have hlt : i < l.length := by omega
    have hdr : l.drop i = l[i] :: l.drop (i + 1) := List.drop_eq_getElem_cons hlt
    by_cases hb : l[i].data.toList < s.data.toList
    · obtain ⟨K, hK⟩ := ih (i + 1) (by omega) (by
        rw [h, hdr, List.take_succ_eq_append_getElem hlt, List.append_assoc]
        congr 1
        show insB s (l[i] :: l.drop (i + 1)) = _
        conv => lhs; unfold insB
        rw [if_pos hb]; rfl)
      dsimp only at hK
      refine ⟨K + 1, fun k hk => ?_⟩
      obtain ⟨m, rfl⟩ : ∃ m, k = m + 1 := ⟨k - 1, by omega⟩
      simp only [laws_inserted.l0]
      rw [if_pos (by omega), if_pos (by omega), rdOf_nat _ _ _ hlt, bytesLess_eq, decide_eq_true hb, if_pos rfl, wr1 (by omega) (by omega)]
      exact hK m (by omega)
    · refine ⟨1, fun k hk => ?_⟩
      obtain ⟨m, rfl⟩ : ∃ m, k = m + 1 := ⟨k - 1, by omega⟩
      have hx : insB s l = l.take i ++ s :: l.drop i := by
        rw [h, hdr]
        congr 1
        conv => lhs; unfold insB
        rw [if_neg hb]
      show laws_inserted.l0 (m + 1) l s (i : Int) = _
      rw [fin i (by omega) hx m, if_pos (by omega), rdOf_nat _ _ _ hlt, bytesLess_eq, decide_eq_false hb]
      rfl
theorem inserted_ev (l : List ByteArray) (s : ByteArray) (hl : l.length ≤ 1000) : Ev (fun k => laws_inserted.f k l s) (insB s l) := inserted_l0 l s hl l.length 0 (by omega) (by simp)
theorem insB_length (s : ByteArray) (l : List ByteArray) : (insB s l).length = l.length + 1 := by
  have := (insB_perm s l).length_eq
  simpa using this
/-- 'begins' is that p stands there. -/
theorem begins_at (x p : ByteArray) (t : Nat) (ht : t ≤ x.size) : laws_begins.f (x.extract t x.size) p = some (at_ (bytesOf x) (bytesOf p) t) := by
  have hsz : (x.extract t x.size).size = x.size - t := by rw [ByteArray.size_extract]; omega
  unfold laws_begins.f
  have hb : (bytesOf x).length = x.size := bytesOf_length x
  have hp : (bytesOf p).length = p.size := bytesOf_length p
  have hinj : ∀ (a b : List UInt8), a.map (fun c : UInt8 => (c.toNat : Int)) = b.map (fun c : UInt8 => (c.toNat : Int)) → a = b := by
    intro a
    induction a with
    | nil => intro b h; cases b with
      | nil => rfl
      | cons y b => cases h
    | cons c a ih => intro b h; cases b with
      | nil => cases h
      | cons y b =>
        simp only [List.map_cons, List.cons.injEq] at h
        rw [ih b h.2, UInt8.toNat_inj.1 (by omega : c.toNat = y.toNat)]
  by_cases hle : (p.size : Int) ≤ ((x.extract t x.size).size : Int)
  · rw [if_pos hle, if_pos (by omega)]
    congr 1
    rw [hsz] at hle
    have e : ((x.extract t x.size).extract 0 ((p.size : Int)).toNat).toList = (x.data.toList.drop t).take p.size := by
      rw [Int.toNat_natCast, Go.ByteArray.toList_eq, ByteArray.data_extract, ByteArray.data_extract, Array.toList_extract, Array.toList_extract]
      simp only [List.extract_eq_take_drop, List.drop_zero, Nat.sub_zero]
      rw [List.take_take]
      congr 1
      omega
    rw [e, Go.ByteArray.toList_eq]
    unfold at_
    rw [hp]
    unfold bytesOf
    rw [← List.map_drop, ← List.map_take]
    rw [Bool.eq_iff_iff]
    simp only [beq_iff_eq]
    exact ⟨fun h => by rw [h], fun h => hinj _ _ h⟩
  · rw [if_neg hle]
    congr 1
    rw [hsz] at hle
    unfold at_
    symm
    rw [beq_eq_false_iff_ne]
    intro h
    have := congrArg List.length h
    rw [List.length_take, List.length_drop, hb, hp] at this
    omega
theorem rd4_nat (xs : List (List Int)) (i : Nat) (h : i < xs.length) : rd_L4 xs (i : Int) = xs[i] := by simp [rd_L4, h]
theorem apart_last {n : Nat} {W : List Int} {q : Int} (hA : Apart n W) (h0 : 0 < W.length) (hq : q = W[W.length - 1]'(by omega)) : ∀ a ∈ W, q ≤ a := by
  intro a ha
  obtain ⟨j, hj, rfl⟩ := List.getElem_of_mem ha
  by_cases hjl : j = W.length - 1
  · subst hjl; exact Int.le_of_eq hq
  · have := List.pairwise_iff_getElem.1 hA j (W.length - 1) hj (by omega) (by omega)
    rw [← hq] at this
    omega
theorem apart_snoc {n : Nat} {W : List Int} {q t : Int} (hA : Apart n W) (hall : ∀ a ∈ W, q ≤ a) (h : t + (n : Int) ≤ q) : Apart n (W ++ [t]) := by
  unfold Apart at hA ⊢
  rw [List.pairwise_append]
  refine ⟨hA, by simp, fun a ha b hb2 => ?_⟩
  rw [List.mem_singleton.1 hb2]
  exact Int.le_trans h (hall a ha)
/-- One part: all its places from the end on; two that overlap end the law. -/
theorem pl_l3 (x : ByteArray) (kw : List ByteArray) (rs : List (List Int)) (fd : List ByteArray) (i : Nat) (hi : i < kw.length) (hri : rs.length = kw.length) (hx : x.size ≤ 1000) (p : ByteArray) (hp : 1 ≤ p.size) (hps : p.size ≤ 1000) (N : Nat)
    (hN : Apart p.size (allPos (bytesOf x) (bytesOf p) N) → rs[i]'(by omega) = allPos (bytesOf x) (bytesOf p) N)
    (hfd : fd.length ≤ 1000) (hnext : Apart p.size (allPos (bytesOf x) (bytesOf p) N) → Ev (fun k => laws_FnPlaces.l2 k x kw rs (if allPos (bytesOf x) (bytesOf p) N = [] then fd else insB p fd) kw (kw.length : Int) (wrap64 ((i : Int) + 1))) true) (hNx : N ≤ x.size + 1) :
    ∀ t : Nat, t ≤ N → ∀ W : List Int, W ++ allPos (bytesOf x) (bytesOf p) t = allPos (bytesOf x) (bytesOf p) N → Apart p.size W → Ev (fun k => laws_FnPlaces.l3 k x kw rs fd (i : Int) p W ((t : Int) - 1) kw (kw.length : Int) (i : Int)) true := by
  have hlen : ∀ n, (allPos (bytesOf x) (bytesOf p) n).length ≤ n := by
    intro n
    induction n with
    | zero => exact Nat.le_refl _
    | succ n ih => rw [allPos_succ]; split <;> (try rw [List.length_cons]) <;> omega
  intro t
  induction t with
  | zero =>
    intro _ W hW hA
    have hW' : W = allPos (bytesOf x) (bytesOf p) N := by rw [← hW]; simp [allPos]
    have hA' : Apart p.size (allPos (bytesOf x) (bytesOf p) N) := by rw [← hW']; exact hA
    have hr := hN hA'
    obtain ⟨K1, h1⟩ := sameInts_same W (by rw [hW']; have := hlen N; omega)
    obtain ⟨K2, h2⟩ := hnext hA'
    obtain ⟨K3, h3⟩ := inserted_ev fd p hfd
    dsimp only at h1 h2 h3
    refine ev1 (max K1 (max K2 K3)) fun k hk => ?_
    simp only [laws_FnPlaces.l3]
    rw [if_neg (by omega), if_pos (by omega), if_pos (by omega), rd4_nat _ _ (by omega), hr, ← hW', h1 k (by omega)]
    simp only [Option.bind_some]
    rw [if_pos trivial]
    rw [← hW'] at h2
    by_cases h0 : W = []
    · rw [if_pos h0] at h2
      rw [if_neg (by rw [h0]; simp)]
      exact h2 k (by omega)
    · rw [if_neg h0] at h2
      rw [if_pos (by have := List.length_pos_iff.2 h0; omega), h3 k (by omega)]
      exact h2 k (by omega)
  | succ t ih =>
    intro ht W hW hA
    have e1 : ((t + 1 : Nat) : Int) - 1 = (t : Int) := by omega
    have e2 : wrap64 ((t : Int) - 1) = (t : Int) - 1 := by unfold wrap64; omega
    have hWl : W.length ≤ N := by have := hlen N; rw [← hW, List.length_append] at this; omega
    have hb := begins_at x p t (by omega)
    rw [allPos_succ] at hW
    cases hat : at_ (bytesOf x) (bytesOf p) t with
    | false =>
      rw [hat] at hW hb
      obtain ⟨K, hK⟩ := ih (by omega) W (by simpa using hW) hA
      dsimp only at hK
      refine ev1 K fun k hk => ?_
      simp only [laws_FnPlaces.l3]
      rw [e1, if_pos (by omega), if_pos (by omega), if_pos (by omega), Int.toNat_natCast, hb]
      simp only [Option.bind_some]
      rw [if_neg (by simp), e2]
      exact hK k hk
    | true =>
      rw [hat] at hW hb
      rw [if_pos rfl] at hW
      have hW2 : (W ++ [(t : Int)]) ++ allPos (bytesOf x) (bytesOf p) t = allPos (bytesOf x) (bytesOf p) N := by rw [← hW]; simp
      by_cases h0 : W = []
      · obtain ⟨K, hK⟩ := ih (by omega) (W ++ [(t : Int)]) hW2 (by rw [h0]; unfold Apart; simp)
        dsimp only at hK
        refine ev1 K fun k hk => ?_
        simp only [laws_FnPlaces.l3]
        rw [e1, if_pos (by omega), if_pos (by omega), if_pos (by omega), Int.toNat_natCast, hb]
        simp only [Option.bind_some]
        rw [if_pos trivial, if_neg (by rw [h0]; simp), if_pos (by omega), e2]
        exact hK k hk
      · have hpos := List.length_pos_iff.2 h0
        have e3 : wrap64 ((W.length : Int) - 1) = ((W.length - 1 : Nat) : Int) := by unfold wrap64; omega
        have e4 : Go.Proofs.YthecfligfhpccaaW.PrintWords.rd W ((W.length - 1 : Nat) : Int) = W[W.length - 1]'(by omega) := rd_nat _ _ (by omega)
        have hmem : W[W.length - 1]'(by omega) ∈ allPos (bytesOf x) (bytesOf p) N := by rw [← hW]; exact List.mem_append_left _ (List.getElem_mem _)
        obtain ⟨q, hqd⟩ : ∃ q, q = W[W.length - 1]'(by omega) := ⟨_, rfl⟩
        have hall := apart_last hA hpos hqd
        rw [← hqd] at hmem e4
        have hq := allPos_lt _ _ _ _ hmem
        have e5 : wrap64 ((t : Int) + (p.size : Int)) = (t : Int) + (p.size : Int) := by unfold wrap64; omega
        by_cases hov : (t : Int) + (p.size : Int) > q
        · refine ev1 0 fun k hk => ?_
          simp only [laws_FnPlaces.l3]
          rw [e1, if_pos (by omega), if_pos (by omega), if_pos (by omega), Int.toNat_natCast, hb]
          simp only [Option.bind_some]
          rw [if_pos trivial, if_pos (by omega), e3, if_pos (by omega), if_pos (by omega), e4, e5, if_pos hov]
        · have hA2 : Apart p.size (W ++ [(t : Int)]) := apart_snoc hA hall (Int.not_lt.1 hov)
          obtain ⟨K, hK⟩ := ih (by omega) (W ++ [(t : Int)]) hW2 hA2
          dsimp only at hK
          refine ev1 K fun k hk => ?_
          simp only [laws_FnPlaces.l3]
          rw [e1, if_pos (by omega), if_pos (by omega), if_pos (by omega), Int.toNat_natCast, hb]
          simp only [Option.bind_some]
          rw [if_pos trivial, if_pos (by omega), e3, if_pos (by omega), if_pos (by omega), e4, e5, if_neg hov, if_pos (by omega), e2]
          exact hK k hk
/-- All parts. -/
theorem pl_l2 (x : ByteArray) (kw : List ByteArray) (hx : x.size ≤ 1000) (hk : kw.length ≤ 1000) (hne : ∀ p ∈ kw, 1 ≤ p.size ∧ p.size ≤ 1000) (hnd : kw.Nodup) (d : Nat) : ∀ i : Nat, i + d = kw.length →
    Ev (fun k => laws_FnPlaces.l2 k x kw (placesOf (foldM (bytesOf x) kw) kw) (isort ((found (bytesOf x) (kw.take i)).map (·.1))) kw (kw.length : Int) (i : Int)) true := by
  have hfm := foldM_found (bytesOf x) kw hnd
  have hpl : placesOf (foldM (bytesOf x) kw) kw = kw.map fun p => occs (bytesOf x) (bytesOf p) := by
    unfold placesOf
    rw [hfm]
    exact List.map_congr_left fun p hp => getM_found (bytesOf x) p kw hp
  rw [hpl]
  have hflen : ∀ l : List ByteArray, (isort ((found (bytesOf x) l).map (·.1))).length ≤ l.length := fun l => by
    rw [(isort_perm _).length_eq, found_keys]
    exact List.length_filter_le _ _
  induction d with
  | zero =>
    intro i hi
    obtain rfl : i = kw.length := by omega
    rw [List.take_length]
    have hs : impl_PlacesSorted.f x kw = some (isort ((found (bytesOf x) kw).map (·.1))) := by
      unfold impl_PlacesSorted.f
      rw [if_pos ⟨hx, hk, hne⟩, hfm]
    obtain ⟨K, hK⟩ := sameTexts_same (isort ((found (bytesOf x) kw).map (·.1))) (by have := hflen kw; omega)
    dsimp only at hK
    refine ev1 K fun k hk => ?_
    simp only [laws_FnPlaces.l2]
    rw [if_neg (by omega), hs]
    simp only [Option.bind_some]
    rw [hK k hk]
    rfl
  | succ d ih =>
    intro i hi
    have hlt : i < kw.length := by omega
    obtain ⟨p, hp⟩ : ∃ p, p = kw[i] := ⟨_, rfl⟩
    have hpn := hne p (by rw [hp]; exact List.getElem_mem _)
    have hbp : (bytesOf p).length = p.size := bytesOf_length p
    have hbx : (bytesOf x).length = x.size := bytesOf_length x
    obtain ⟨N, hN⟩ : ∃ N : Nat, (x.size : Int) - (p.size : Int) < (N : Int) ∧ N ≤ x.size + 1 ∧ ((N : Int) - 1 = (x.size : Int) - (p.size : Int) ∨ ((x.size : Int) - (p.size : Int) < 0 ∧ N = 0)) := by
      by_cases h : p.size ≤ x.size
      · exact ⟨x.size - p.size + 1, by omega, by omega, .inl (by omega)⟩
      · exact ⟨0, by omega, by omega, .inr ⟨by omega, rfl⟩⟩
    have hocc : Apart p.size (allPos (bytesOf x) (bytesOf p) N) → occs (bytesOf x) (bytesOf p) = allPos (bytesOf x) (bytesOf p) N := fun hA => occs_all (bytesOf x) (bytesOf p) (by omega) N (by omega) (by rw [hbp]; exact hA)
    have hri : (kw.map fun p => occs (bytesOf x) (bytesOf p)).length = kw.length := by simp
    have hget : (kw.map fun p => occs (bytesOf x) (bytesOf p))[i]'(by omega) = occs (bytesOf x) (bytesOf p) := by simp [hp]
    have hstep : Apart p.size (allPos (bytesOf x) (bytesOf p) N) → isort ((found (bytesOf x) (kw.take (i + 1))).map (·.1)) = if allPos (bytesOf x) (bytesOf p) N = [] then isort ((found (bytesOf x) (kw.take i)).map (·.1)) else insB p (isort ((found (bytesOf x) (kw.take i)).map (·.1))) := fun hA => by
      rw [found_keys, found_keys, List.take_succ_eq_append_getElem hlt, List.filter_append, ← hp, ← hocc hA]
      by_cases g : occs (bytesOf x) (bytesOf p) = []
      · rw [if_pos g]; simp [g]
      · rw [if_neg g]
        have : (occs (bytesOf x) (bytesOf p)).isEmpty = false := by cases hh : occs (bytesOf x) (bytesOf p) with
          | nil => exact absurd hh g
          | cons a l => rfl
        simp [this, isort, List.foldl_append]
    obtain ⟨K, hK⟩ := pl_l3 x kw (kw.map fun p => occs (bytesOf x) (bytesOf p)) (isort ((found (bytesOf x) (kw.take i)).map (·.1))) i hlt hri hx p hpn.1 hpn.2 N (fun hA => by rw [hget, hocc hA]) (by have := hflen (kw.take i); rw [List.length_take] at this; omega)
      (fun hA => by rw [← hstep hA, wr1 (by omega) (by omega)]; exact ih (i + 1) (by omega)) hN.2.1 N (Nat.le_refl _) [] (by simp) (by unfold Apart; simp)
    dsimp only at hK
    have e1 : wrap64 ((x.size : Int) - (p.size : Int)) = (x.size : Int) - (p.size : Int) := by unfold wrap64; omega
    refine ev1 (K + 1) fun k hk => ?_
    simp only [laws_FnPlaces.l2]
    rw [if_pos (by omega), if_pos (by omega), if_pos (by omega), rdOf_nat _ _ _ hlt, ← hp, e1]
    rcases hN.2.2 with h | ⟨h, h0⟩
    · rw [← h]; exact hK k (by omega)
    · have h2 := hK k (by omega)
      obtain ⟨m, rfl⟩ : ∃ m, k = m + 1 := ⟨k - 1, by omega⟩
      subst h0
      simp only [laws_FnPlaces.l3] at h2 ⊢
      rw [if_neg (by omega)] at h2
      rw [if_neg (by omega)]
      exact h2
/-- No part is empty, none stands twice. -/
theorem pl_l1 (x : ByteArray) (kw : List ByteArray) (hk : kw.length ≤ 1000) (i : Nat) (hi : i < kw.length) (hnext : (∀ j : Nat, ∀ h : j < kw.length, j < i → kw[j] ≠ kw[i]) → Ev (fun k => laws_FnPlaces.l0 k x kw kw (kw.length : Int) (wrap64 ((i : Int) + 1))) true) (d : Nat) : ∀ j : Nat, j + d = i → (∀ q : Nat, ∀ h : q < kw.length, q < j → kw[q] ≠ kw[i]) → Ev (fun k => laws_FnPlaces.l1 k x kw kw[i] kw (kw.length : Int) (i : Int) (i : Int) (j : Int)) true := by
  induction d with
  | zero =>
    intro j hj hq
    obtain ⟨K, hK⟩ := hnext (fun q h h2 => hq q h (by omega))
    dsimp only at hK
    refine ev1 K fun k hk => ?_
    simp only [laws_FnPlaces.l1]
    rw [if_neg (by omega)]
    exact hK k hk
  | succ d ih =>
    intro j hj hq
    by_cases e : kw[j]'(by omega) = kw[i]
    · refine ev1 0 fun k hk => ?_
      simp only [laws_FnPlaces.l1]
      rw [if_pos (by omega), if_pos (by omega), if_pos (by omega), rdOf_nat _ _ _ (by omega), e, if_pos rfl]
    · obtain ⟨K, hK⟩ := ih (j + 1) (by omega) (fun q h h2 => by
        by_cases e2 : q = j
        · subst e2; exact e
        · exact hq q h (by omega))
      dsimp only at hK
      refine ev1 K fun k hk => ?_
      simp only [laws_FnPlaces.l1]
      rw [if_pos (by omega), if_pos (by omega), if_pos (by omega), rdOf_nat _ _ _ (by omega), if_neg (fun h => e (toList_inj h)), wr1 (by omega) (by omega)]
      exact hK k hk
theorem pl_l0 (x : ByteArray) (kw : List ByteArray) (hx : x.size ≤ 1000) (hk : kw.length ≤ 1000) (hs : ∀ p ∈ kw, p.size ≤ 1000) (d : Nat) : ∀ i : Nat, i + d = kw.length → (∀ j : Nat, ∀ h : j < kw.length, j < i → 1 ≤ kw[j].size) → (∀ j q : Nat, ∀ h : q < kw.length, ∀ h2 : j < q, q < i → kw[j]'(by omega) ≠ kw[q]) →
    Ev (fun k => laws_FnPlaces.l0 k x kw kw (kw.length : Int) (i : Int)) true := by
  induction d with
  | zero =>
    intro i hi h1 h2
    obtain rfl : i = kw.length := by omega
    have hne : ∀ p ∈ kw, 1 ≤ p.size ∧ p.size ≤ 1000 := fun p hp => by
      obtain ⟨j, hj, rfl⟩ := List.getElem_of_mem hp
      exact ⟨h1 j hj hj, hs _ hp⟩
    have hnd : kw.Nodup := by
      unfold List.Nodup
      rw [List.pairwise_iff_getElem]
      intro a b ha hb hab
      exact h2 a b hb hab hb
    obtain ⟨K, hK⟩ := pl_l2 x kw hx hk hne hnd kw.length 0 (by omega)
    dsimp only at hK
    have hp : impl_Places.f x kw = some (placesOf (foldM (bytesOf x) kw) kw) := by unfold impl_Places.f; rw [if_pos ⟨hx, hk, hne⟩]
    refine ev1 K fun k hk2 => ?_
    simp only [laws_FnPlaces.l0]
    rw [if_neg (by omega), hp]
    simp only [Option.bind_some]
    rw [if_pos (by unfold placesOf; rw [List.length_map])]
    exact hK k hk2
  | succ d ih =>
    intro i hi h1 h2
    have hlt : i < kw.length := by omega
    by_cases h0 : kw[i].toList = ([] : List UInt8)
    · refine ev1 0 fun k hk2 => ?_
      simp only [laws_FnPlaces.l0]
      rw [if_pos (by omega), if_pos (by omega), if_pos (by omega), rdOf_nat _ _ _ hlt, if_pos h0]
    · have hpos := size_pos h0
      obtain ⟨K, hK⟩ := pl_l1 x kw hk i hlt (fun hq => by
        rw [wr1 (by omega) (by omega)]
        exact ih (i + 1) (by omega) (fun j h hj => by
          by_cases e : j = i
          · subst e; exact hpos
          · exact h1 j h (by omega)) (fun j q h hjq hq2 => by
          by_cases e : q = i
          · subst e; exact hq j (by omega) hjq
          · exact h2 j q h hjq (by omega))) i 0 (by omega) (fun q _ h => by omega)
      dsimp only at hK
      refine ev1 K fun k hk2 => ?_
      simp only [laws_FnPlaces.l0]
      rw [if_pos (by omega), if_pos (by omega), if_pos (by omega), rdOf_nat _ _ _ hlt, if_neg h0]
      exact hK k hk2
theorem aba : impl_Places.f (⟨#[97, 98, 97]⟩ : ByteArray) (([(⟨#[97]⟩ : ByteArray)] : List ByteArray)) = some [[2, 0]] := by decide
theorem FnPlaces (x0 : ByteArray) (x1 : List ByteArray) (g0 : x0.size ≤ 9223372036854775807) (g1 : (x1.length ≤ 9223372036854775807 ∧ ∀ y0 ∈ x1, y0.size ≤ 9223372036854775807)) : ∃ k, laws_FnPlaces.f k x0 x1 = some true := by
  have j0t : ∀ k, laws_FnPlaces.j0 (k + 1) x0 x1 true = some true := fun k => by simp only [laws_FnPlaces.j0]; rw [if_pos trivial]
  unfold laws_FnPlaces.f
  by_cases hb : (x0.size : Int) > 2147483647
  · exact ⟨1, by rw [if_pos hb]; exact j0t 0⟩
  · obtain ⟨b, ⟨K0, hK0⟩, hfit⟩ := fit4 x1
    dsimp only at hK0
    cases b with
    | false => exact ⟨K0 + 1, by rw [if_neg hb, hK0 _ (by omega)]; exact j0t K0⟩
    | true =>
      have hf := hfit rfl
      obtain ⟨c1, ⟨K1, h1⟩, hc1⟩ := clean_ev 200 [x0] ⟨by simp, fun p hp => by rw [List.mem_singleton.1 hp]; omega⟩
      obtain ⟨c2, ⟨K2, h2⟩, hc2⟩ := clean_ev 40 x1 hf
      obtain ⟨K3, h3⟩ := sameInts_same [2, 0] (by simp)
      dsimp only at h1 h2 h3
      have hj2 : ∀ q : Bool, (q = false → c1 = true ∧ c2 = true ∧ x1.length ≤ 8) → Ev (fun k => laws_FnPlaces.j2 k x0 x1 q) true := fun q hq => by
        cases q with
        | true => exact ev1 0 fun k _ => by simp only [laws_FnPlaces.j2]; rw [if_pos trivial]
        | false =>
          obtain ⟨q1, q2, q3⟩ := hq rfl
          have hx := (hc1 q1 x0 (by simp)).1.1
          obtain ⟨K, hK⟩ := pl_l0 x0 x1 (by omega) (by omega) (fun p hp => by have := (hc2 q2 p hp).1.1; omega) x1.length 0 (by omega) (fun j _ h => by omega) (fun j q _ _ h => by omega)
          dsimp only at hK
          refine ev1 K fun k hk => ?_
          simp only [laws_FnPlaces.j2]
          rw [if_neg (by simp)]
          exact hK k hk
      have hj1 : Ev (fun k => laws_FnPlaces.j1 k x0 x1 false) true := by
        by_cases q1 : c1 = true
        · by_cases q3 : (x1.length : Int) > 8
          · obtain ⟨K, hK⟩ := hj2 true (fun h => by cases h)
            dsimp only at hK
            refine ev1 (max K1 K) fun k hk => ?_
            simp only [laws_FnPlaces.j1]
            rw [if_neg (by simp), h1 k (by omega)]
            simp only [Option.bind_some]
            rw [if_pos q1, if_pos q3]
            exact hK k (by omega)
          · obtain ⟨K, hK⟩ := hj2 (!c2) (fun h => ⟨q1, by simpa using h, by omega⟩)
            dsimp only at hK
            refine ev1 (max K1 (max K2 K)) fun k hk => ?_
            simp only [laws_FnPlaces.j1]
            rw [if_neg (by simp), h1 k (by omega)]
            simp only [Option.bind_some]
            rw [if_pos q1, if_neg q3, h2 k (by omega)]
            simp only [Option.bind_some]
            exact hK k (by omega)
        · obtain ⟨K, hK⟩ := hj2 true (fun h => by cases h)
          dsimp only at hK
          refine ev1 (max K1 K) fun k hk => ?_
          simp only [laws_FnPlaces.j1]
          rw [if_neg (by simp), h1 k (by omega)]
          simp only [Option.bind_some]
          rw [if_neg q1]
          exact hK k (by omega)
      obtain ⟨K, hK⟩ := hj1
      dsimp only at hK
      refine ⟨max K0 (max K3 K) + 1, ?_⟩
      rw [if_neg hb, hK0 _ (by omega)]
      simp only [Option.bind_some, laws_FnPlaces.j0]
      rw [if_neg (by simp), aba]
      simp only [Option.bind_some]
      have e0 : rd_L4 [[2, 0]] 0 = [2, 0] := rfl
      rw [if_pos (by simp), if_pos (by simp), e0, h3 _ (by omega)]
      simp only [Option.bind_some]
      exact hK _ (by omega)
end Go.Proofs.Ythecfligfhpccaa.Pure
