/- A text's parts are what they should be, and so are the places at which parts stand: for every text and parts. No condition. -/
import Derived.Test.YthecfligfhpccaaDoorQPa
import Derived.Test.YthecfligfhpccaaDoorQSo
import Derived.Test.YthecfligfhpccaaDoorXClean4
import Derived.Test.YthecfligfhpccaaDoorXSame
import Derived.Test.YthecfligfhpccaaDoorP5
import Derived.KernelRfl
set_option linter.unusedVariables false
namespace Go.Proofs.YthecfligfhpccaaDoor.Pure
open Go.RowKit Go.Lib Go.Proofs.YthecfligfhpccaaDoorW.PrintWords Go.Proofs.YthecfligfhpccaaDoorW.PrintLast Go.Proofs.YthecfligfhpccaaDoorW.PrintMore Go.Proofs.YthecfligfhpccaaDoor.P Go.Proofs.YthecfligfhpccaaDoor.X Go.Proofs.YthecfligfhpccaaDoor.Pa Go.Proofs.YthecfligfhpccaaDoor.Li
theorem wr {a b : Int} (h : a = b) (h0 : -9223372036854775808 ≤ b) (h1 : b ≤ 9223372036854775807) : wrap64 a = b := by unfold wrap64; omega
theorem rd8_nat (xs : List (List Int)) (i : Nat) (h : i < xs.length) : rd_L8 xs (i : Int) = xs[i] := by simp [rd_L8, h]
theorem ne_toList {p : ByteArray} (h : 1 ≤ p.size) : ¬ p.toList = ([] : List UInt8) := fun e => by
  have h2 := congrArg List.length e
  rw [Go.ByteArray.toList_eq, Array.length_toList] at h2
  have : p.size = 0 := h2
  omega
abbrev oc (x p : ByteArray) : List Int := occs (bytesOf x) (bytesOf p)
theorem sp_l2 (x : ByteArray) (kw : List ByteArray) (out : List (List Int)) (hout : out.length ≤ 1000) (idx : Int) (p : ByteArray) (hp : 1 ≤ p.size) (hps : p.size ≤ 1000) (hx : x.size ≤ 1000) (R : List (List Int) × Int) (T : List Int)
    (hnext : Ev (fun k => spec_Places.l0 k x kw (out ++ [T]) kw (kw.length : Int) (wrap64 (idx + 1))) R) :
    ∀ (n i : Nat), i ≤ n → i ≤ x.size → ∀ W : List Int, W.length + i ≤ 2000 → W ++ occ (bytesOf x) (bytesOf p) (x.size + 1) i = T → Ev (fun k => spec_Places.l2 k x kw out p W ((i : Int) - (p.size : Int)) kw (kw.length : Int) idx) R := by
  have hbx := bytesOf_length x
  have hbp := bytesOf_length p
  have hpe := ne_toList hp
  intro n
  induction n with
  | zero =>
    intro i hi hix W hW hT
    obtain rfl : i = 0 := by omega
    obtain ⟨K, hK⟩ := hnext
    dsimp only at hK
    rw [occ_short _ _ _ _ (by omega) (by omega), List.append_nil] at hT
    refine ev1 (K + 1) fun k hk => ?_
    obtain ⟨m, rfl⟩ : ∃ m, k = m + 1 := ⟨k - 1, by omega⟩
    simp only [spec_Places.l2, spec_Places.j3]
    rw [if_neg (by omega), if_neg (by simp), if_pos (by omega), hT]
    exact hK m (by omega)
  | succ n ih =>
    intro i hi hix W hW hT
    by_cases hlt : i < p.size
    · obtain ⟨K, hK⟩ := hnext
      dsimp only at hK
      rw [occ_short _ _ _ _ (by omega) (by omega), List.append_nil] at hT
      refine ev1 (K + 1) fun k hk => ?_
      obtain ⟨m, rfl⟩ : ∃ m, k = m + 1 := ⟨k - 1, by omega⟩
      simp only [spec_Places.l2, spec_Places.j3]
      rw [if_neg (by omega), if_neg (by simp), if_pos (by omega), hT]
      exact hK m (by omega)
    · have hstep := occ_step (bytesOf x) (bytesOf p) (by omega) x.size i (by omega) (by omega)
      rw [hbp] at hstep
      have hn : ((i : Int) - (p.size : Int)).toNat = i - p.size := by omega
      have hc := cut_at x p (i - p.size) (by omega)
      have e1 : wrap64 ((i : Int) - (p.size : Int) + (p.size : Int)) = (i : Int) := wr (by omega) (by omega) (by omega)
      have e2 : wrap64 ((p.size : Int) - 1) = (p.size : Int) - 1 := wr rfl (by omega) (by omega)
      have e3 : wrap64 ((i : Int) - (p.size : Int) - ((p.size : Int) - 1)) = (i : Int) - (p.size : Int) - ((p.size : Int) - 1) := wr rfl (by omega) (by omega)
      have e4 : wrap64 ((i : Int) - (p.size : Int) - ((p.size : Int) - 1) - 1) = ((i - p.size : Nat) : Int) - (p.size : Int) := wr (by omega) (by omega) (by omega)
      have e5 : wrap64 ((i : Int) - (p.size : Int) - 1) = ((i - 1 : Nat) : Int) - (p.size : Int) := wr (by omega) (by omega) (by omega)
      rw [show i - p.size + p.size = i by omega] at hc
      cases hat : at_ (bytesOf x) (bytesOf p) (i - p.size) with
      | true =>
        rw [hat] at hc hstep
        rw [hstep, if_pos rfl, occ_enough _ _ (by omega) x.size (i - p.size) (by omega) (by omega), hbx] at hT
        obtain ⟨K, hK⟩ := ih (i - p.size) (by omega) (by omega) (W ++ [((i - p.size : Nat) : Int)]) (by simp; omega) (by rw [← hT]; simp)
        dsimp only at hK
        refine ev1 (K + 1) fun k hk => ?_
        obtain ⟨m, rfl⟩ : ∃ m, k = m + 1 := ⟨k - 1, by omega⟩
        simp only [spec_Places.l2, spec_Places.j3]
        rw [if_pos (by omega), if_pos (by rw [bne_iff_ne]; exact hpe), if_pos (by omega), e1, if_pos (by omega), if_pos (by omega), hn, Int.toNat_natCast, if_pos (beq_iff_eq.1 hc), if_pos (by omega), e2, e3, e4, show (i : Int) - (p.size : Int) = ((i - p.size : Nat) : Int) by omega]
        exact hK m (by omega)
      | false =>
        rw [hat] at hc hstep
        rw [hstep, if_neg (by simp)] at hT
        obtain ⟨K, hK⟩ := ih (i - 1) (by omega) (by omega) W (by omega) hT
        dsimp only at hK
        refine ev1 (K + 1) fun k hk => ?_
        obtain ⟨m, rfl⟩ : ∃ m, k = m + 1 := ⟨k - 1, by omega⟩
        simp only [spec_Places.l2, spec_Places.j3]
        rw [if_pos (by omega), if_pos (by rw [bne_iff_ne]; exact hpe), if_pos (by omega), e1, if_pos (by omega), if_pos (by omega), hn, Int.toNat_natCast, if_neg (beq_eq_false_iff_ne.1 hc), e5]
        exact hK m (by omega)
/-- What the reference's places tell. -/
def Told (x : ByteArray) (kw : List ByteArray) (r : List (List Int) × Int) : Prop := r.2 = 1 → kw.Nodup ∧ r.1 = kw.map (oc x)
theorem sp_l1 (x : ByteArray) (kw : List ByteArray) (hx : x.size ≤ 1000) (hk : kw.length ≤ 1000) (hne : ∀ p ∈ kw, 1 ≤ p.size ∧ p.size ≤ 1000) (out : List (List Int)) (hout : out.length ≤ 1000) (i : Nat) (hi : i < kw.length)
    (hnext : (∀ j : Nat, ∀ h : j < kw.length, j < i → kw[j] ≠ kw[i]) → ∃ r, Ev (fun k => spec_Places.l0 k x kw (out ++ [oc x kw[i]]) kw (kw.length : Int) (wrap64 ((i : Int) + 1))) r ∧ Told x kw r) (d : Nat) :
    ∀ j : Nat, j + d = i → (∀ q : Nat, ∀ h : q < kw.length, q < j → kw[q] ≠ kw[i]) → ∃ r, Ev (fun k => spec_Places.l1 k x kw out kw[i] kw (kw.length : Int) (i : Int) (kw.take i) ((kw.take i).length : Int) (j : Int)) r ∧ Told x kw r := by
  have hpn := hne kw[i] (List.getElem_mem _)
  have hpe := ne_toList hpn.1
  have htl : (kw.take i).length = i := by rw [List.length_take]; omega
  induction d with
  | zero =>
    intro j hj hq
    obtain ⟨r, h1, h2⟩ := hnext (fun q h h3 => hq q h (by omega))
    obtain ⟨K, hK⟩ := sp_l2 x kw out hout (i : Int) kw[i] hpn.1 hpn.2 hx r (oc x kw[i]) h1 x.size x.size (Nat.le_refl _) (Nat.le_refl _) [] (by simp; omega) (by unfold oc occs; rw [bytesOf_length]; rfl)
    dsimp only at hK
    have e1 : wrap64 ((x.size : Int) - (kw[i].size : Int)) = (x.size : Int) - (kw[i].size : Int) := wr rfl (by omega) (by omega)
    refine ⟨r, ev1 K fun k hk => ?_, h2⟩
    simp only [spec_Places.l1]
    rw [if_neg (by omega), e1]
    exact hK k hk
  | succ d ih =>
    intro j hj hq
    have hjt : j < (kw.take i).length := by omega
    have hget : (kw.take i)[j] = kw[j]'(by omega) := List.getElem_take
    by_cases e : kw[j]'(by omega) = kw[i]
    · refine ⟨([], 2), ev1 0 fun k hk => ?_, fun h => by cases h⟩
      simp only [spec_Places.l1]
      rw [if_pos (by omega), if_pos (by omega), if_pos (by omega), rdOf_nat _ _ _ hjt, hget, e, if_pos rfl, if_neg hpe]
    · obtain ⟨r, ⟨K, hK⟩, h2⟩ := ih (j + 1) (by omega) (fun q h h3 => by
        by_cases e2 : q = j
        · subst e2; exact e
        · exact hq q h (by omega))
      dsimp only at hK
      refine ⟨r, ev1 K fun k hk => ?_, h2⟩
      simp only [spec_Places.l1]
      rw [if_pos (by omega), if_pos (by omega), if_pos (by omega), rdOf_nat _ _ _ hjt, hget, if_neg (fun h => e (toList_inj h).symm), wr1 (by omega) (by omega)]
      exact hK k hk
theorem sp_l0 (x : ByteArray) (kw : List ByteArray) (hx : x.size ≤ 1000) (hk : kw.length ≤ 1000) (hne : ∀ p ∈ kw, 1 ≤ p.size ∧ p.size ≤ 1000) (d : Nat) : ∀ i : Nat, i + d = kw.length → (∀ j q : Nat, ∀ h : q < kw.length, ∀ h2 : j < q, q < i → kw[j]'(by omega) ≠ kw[q]) →
    ∃ r, Ev (fun k => spec_Places.l0 k x kw ((kw.take i).map (oc x)) kw (kw.length : Int) (i : Int)) r ∧ Told x kw r := by
  induction d with
  | zero =>
    intro i hi h2
    obtain rfl : i = kw.length := by omega
    rw [List.take_length]
    refine ⟨(kw.map (oc x), 1), ev1 0 fun k hk => ?_, fun _ => ⟨?_, rfl⟩⟩
    · simp only [spec_Places.l0]
      rw [if_neg (by omega)]
    · unfold List.Nodup
      rw [List.pairwise_iff_getElem]
      intro a b ha hb hab
      exact h2 a b hb hab hb
  | succ d ih =>
    intro i hi h2
    have hlt : i < kw.length := by omega
    obtain ⟨r, ⟨K, hK⟩, hr⟩ := sp_l1 x kw hx hk hne ((kw.take i).map (oc x)) (by simp; omega) i hlt (fun hq => by
      rw [wr1 (by omega) (by omega)]
      have := ih (i + 1) (by omega) (fun j q h hjq hq2 => by
        by_cases e : q = i
        · subst e; exact hq j (by omega) hjq
        · exact h2 j q h hjq (by omega))
      rw [List.take_succ_eq_append_getElem hlt, List.map_append] at this
      exact this) i 0 (by omega) (fun q _ h => by omega)
    dsimp only at hK
    refine ⟨r, ev1 K fun k hk => ?_, hr⟩
    simp only [spec_Places.l0]
    rw [if_pos (by omega), if_pos (by omega), if_pos (by omega), if_pos (by omega), rdOf_nat _ _ _ hlt, Int.toNat_natCast]
    exact hK k hk
theorem ps_l1 (a : List (List Int)) (hl : a.length ≤ 1000) (ha : ∀ l ∈ a, l.length ≤ 1000000) (d : Nat) : ∀ i : Nat, i + d = a.length → Ev (fun k => laws_FnPartsSay.l1 k a a (a.length : Int) (i : Int)) true := by
  induction d with
  | zero =>
    intro i hi
    exact ev1 0 fun k hk => by simp only [laws_FnPartsSay.l1]; rw [if_neg (by omega)]
  | succ d ih =>
    intro i hi
    have hlt : i < a.length := by omega
    obtain ⟨K, hK⟩ := ih (i + 1) (by omega)
    obtain ⟨K2, h2⟩ := sameInts_same a[i] (by have := ha a[i] (List.getElem_mem _); omega)
    dsimp only at hK h2
    refine ev1 (max K K2) fun k hk => ?_
    simp only [laws_FnPartsSay.l1]
    rw [if_pos (by omega), if_pos (by omega), if_pos (by omega), if_pos (by omega), rd8_nat _ _ hlt, h2 k (by omega)]
    simp only [Option.bind_some]
    rw [if_pos trivial, wr1 (by omega) (by omega)]
    exact hK k (by omega)
theorem occ_length (s p : List Int) : ∀ f i, (occ s p f i).length ≤ f := by
  intro f
  induction f with
  | zero => intro i; simp [occ]
  | succ f ih =>
    intro i
    simp only [occ]
    split
    · simp
    · rw [List.length_cons]; have := ih (lastIx (s.take i) p).toNat; omega
theorem ps_j3 (x : ByteArray) (kw : List ByteArray) (hx : x.size ≤ 1000) (hk : kw.length ≤ 1000) (hne : ∀ p ∈ kw, 1 ≤ p.size ∧ p.size ≤ 1000) : Ev (fun k => laws_FnPartsSay.j3 k x kw false) true := by
  obtain ⟨r, ⟨K, hK⟩, hr⟩ := sp_l0 x kw hx hk hne kw.length 0 (by omega) (fun j q _ _ h => by omega)
  dsimp only at hK
  have hK2 : ∀ k, K ≤ k → spec_Places.f k x kw = some r := fun k hk => hK k hk
  by_cases h1 : r.2 = 1
  · obtain ⟨hnd, hra⟩ := hr h1
    have hpl : placesOf (foldM (bytesOf x) kw) kw = kw.map (oc x) := by
      unfold placesOf
      rw [foldM_found (bytesOf x) kw hnd]
      exact List.map_congr_left fun p hp => getM_found (bytesOf x) p kw hp
    have hp : impl_Places.f x kw = some (kw.map (oc x)) := by unfold impl_Places.f; rw [if_pos ⟨hx, hk, hne⟩, hpl]
    obtain ⟨K3, h3⟩ := ps_l1 (kw.map (oc x)) (by simp; exact hk) (fun l hl => by
      obtain ⟨p, _, rfl⟩ := List.mem_map.1 hl
      have := occ_length (bytesOf x) (bytesOf p) ((bytesOf x).length + 1) (bytesOf x).length
      rw [bytesOf_length] at this
      unfold oc occs
      rw [bytesOf_length]
      omega) (kw.map (oc x)).length 0 (by omega)
    dsimp only at h3
    refine ev1 (max K K3) fun k hk2 => ?_
    simp only [laws_FnPartsSay.j3]
    rw [if_neg (by simp), hK2 k (by omega)]
    simp only [Option.bind_some]
    rw [if_pos h1, hp]
    simp only [Option.bind_some]
    rw [hra, if_pos rfl]
    exact h3 k (by omega)
  · refine ev1 K fun k hk2 => ?_
    simp only [laws_FnPartsSay.j3]
    rw [if_neg (by simp), hK2 k (by omega)]
    simp only [Option.bind_some]
    rw [if_neg h1]
theorem ps_l0 (x : ByteArray) (kw : List ByteArray) (a b c : Bool) (hx : x.size ≤ 1000) (hk : kw.length ≤ 1000) (hs : ∀ p ∈ kw, p.size ≤ 1000) (d : Nat) : ∀ i : Nat, i + d = kw.length → (∀ j : Nat, ∀ h : j < kw.length, j < i → 1 ≤ kw[j].size) → Ev (fun k => laws_FnPartsSay.l0 k x kw a b c kw (kw.length : Int) (i : Int)) true := by
  induction d with
  | zero =>
    intro i hi h1
    obtain rfl : i = kw.length := by omega
    have hne : ∀ p ∈ kw, 1 ≤ p.size ∧ p.size ≤ 1000 := fun p hp => by
      obtain ⟨j, hj, rfl⟩ := List.getElem_of_mem hp
      exact ⟨h1 j hj hj, hs _ hp⟩
    obtain ⟨s1, _⟩ := go_small x ⟨a, b, c⟩ (x.size + 1) 0 0 true
    obtain ⟨K1, g1⟩ := sameTexts_same (parts x ⟨a, b, c⟩) (by unfold parts; omega)
    obtain ⟨K2, g2⟩ := sameTexts_same (specPS x kw) (by have := specPS_len x kw []; unfold specPS; simp at this; omega)
    obtain ⟨K3, g3⟩ := ps_j3 x kw hx hk hne
    dsimp only at g1 g2 g3
    have f1 : impl_Parts.f x a b c = some (parts x ⟨a, b, c⟩) := by unfold impl_Parts.f; rw [if_pos hx]
    have f2 : spec_Parts.f x a b c = some (parts x ⟨a, b, c⟩) := by unfold spec_Parts.f; rw [if_pos hx]
    have f3 : impl_PlacesSorted.f x kw = some (specPS x kw) := by unfold impl_PlacesSorted.f; rw [if_pos ⟨hx, hk, hne⟩, sorted_same x kw (fun p hp => (hne p hp).1)]
    have f4 : spec_PlacesSorted.f x kw = some (specPS x kw) := by unfold spec_PlacesSorted.f; rw [if_pos ⟨hx, hk, hne⟩]
    refine ev1 (max K1 (max K2 K3)) fun k hk2 => ?_
    simp only [laws_FnPartsSay.l0]
    rw [if_neg (by omega), f1]
    simp only [Option.bind_some]
    rw [f2]
    simp only [Option.bind_some]
    rw [g1 k (by omega)]
    simp only [Option.bind_some]
    rw [if_pos trivial, f3]
    simp only [Option.bind_some]
    rw [f4]
    simp only [Option.bind_some]
    rw [g2 k (by omega)]
    simp only [Option.bind_some]
    exact g3 k (by omega)
  | succ d ih =>
    intro i hi h1
    have hlt : i < kw.length := by omega
    by_cases h0 : kw[i].toList = ([] : List UInt8)
    · refine ev1 0 fun k hk2 => ?_
      simp only [laws_FnPartsSay.l0]
      rw [if_pos (by omega), if_pos (by omega), if_pos (by omega), rdOf_nat _ _ _ hlt, if_pos h0]
    · have hpos := size_pos h0
      obtain ⟨K, hK⟩ := ih (i + 1) (by omega) (fun j h hj => by
        by_cases e : j = i
        · subst e; exact hpos
        · exact h1 j h (by omega))
      dsimp only at hK
      refine ev1 K fun k hk2 => ?_
      simp only [laws_FnPartsSay.l0]
      rw [if_pos (by omega), if_pos (by omega), if_pos (by omega), rdOf_nat _ _ _ hlt, if_neg h0, wr1 (by omega) (by omega)]
      exact hK k hk2
theorem AbcS : impl_Parts.f (⟨#[65, 98, 32, 99]⟩ : ByteArray) false false false = some [⟨#[97, 98]⟩, ⟨#[32]⟩, ⟨#[99]⟩] := by
  unfold impl_Parts.f
  rw [if_pos (by decide)]
  have : parts (⟨#[65, 98, 32, 99]⟩ : ByteArray) ⟨false, false, false⟩ = [⟨#[97, 98]⟩, ⟨#[32]⟩, ⟨#[99]⟩] := by kernel_rfl
  rw [this]
theorem FnPartsSay (x0 : ByteArray) (x1 : List ByteArray) (x2 : Bool) (x3 : Bool) (x4 : Bool) (g0 : x0.size ≤ 9223372036854775807) (g1 : (x1.length ≤ 9223372036854775807 ∧ ∀ y0 ∈ x1, y0.size ≤ 9223372036854775807)) : ∃ k, laws_FnPartsSay.f k x0 x1 x2 x3 x4 = some true := by
  have j0t : ∀ k, laws_FnPartsSay.j0 (k + 1) x0 x1 x2 x3 x4 true = some true := fun k => by simp only [laws_FnPartsSay.j0]; rw [if_pos trivial]
  unfold laws_FnPartsSay.f
  by_cases hb : (x0.size : Int) > 2147483647
  · exact ⟨1, by rw [if_pos hb]; exact j0t 0⟩
  · obtain ⟨b, ⟨K0, hK0⟩, hfit⟩ := fit4 x1
    dsimp only at hK0
    cases b with
    | false => exact ⟨K0 + 1, by rw [if_neg hb, hK0 _ (by omega)]; exact j0t K0⟩
    | true =>
      have hf := hfit rfl
      obtain ⟨c1, ⟨K1, h1⟩, hc1⟩ := clean_ev 300 [x0] ⟨by simp, fun p hp => by rw [List.mem_singleton.1 hp]; omega⟩
      obtain ⟨c2, ⟨K2, h2⟩, hc2⟩ := clean_ev 40 x1 hf
      dsimp only at h1 h2
      have hj1 : ∀ q : Bool, (q = false → c1 = true ∧ c2 = true ∧ x1.length ≤ 8) → Ev (fun k => laws_FnPartsSay.j1 k x0 x1 x2 x3 x4 q) true := fun q hq => by
        cases q with
        | true => exact ev1 0 fun k _ => by simp only [laws_FnPartsSay.j1]; rw [if_pos trivial]
        | false =>
          obtain ⟨q1, q2, q3⟩ := hq rfl
          have hx := (hc1 q1 x0 (by simp)).1.1
          obtain ⟨K, hK⟩ := ps_l0 x0 x1 x2 x3 x4 (by omega) (by omega) (fun p hp => by have := (hc2 q2 p hp).1.1; omega) x1.length 0 (by omega) (fun j _ h => by omega)
          dsimp only at hK
          refine ev1 K fun k hk => ?_
          simp only [laws_FnPartsSay.j1]
          rw [if_neg (by simp)]
          exact hK k hk
      have fin : ∀ q : Bool, Ev (fun k => laws_FnPartsSay.j1 k x0 x1 x2 x3 x4 q) true → (∀ k, K1 ≤ k → K2 ≤ k → (if c1 = true then (if (x1.length : Int) > 8 then laws_FnPartsSay.j1 k x0 x1 x2 x3 x4 true else laws_FnPartsSay.j1 k x0 x1 x2 x3 x4 (!c2)) else laws_FnPartsSay.j1 k x0 x1 x2 x3 x4 true) = laws_FnPartsSay.j1 k x0 x1 x2 x3 x4 q) → ∃ k, (laws_zzFits4.f k x1).bind (fun t304 => laws_FnPartsSay.j0 k x0 x1 x2 x3 x4 (!t304)) = some true := fun q ⟨K, hK⟩ he => by
        dsimp only at hK
        refine ⟨max K0 (max K1 (max K2 K)) + 1, ?_⟩
        rw [hK0 _ (by omega)]
        simp only [Option.bind_some, laws_FnPartsSay.j0]
        rw [if_neg (by simp), AbcS]
        simp only [Option.bind_some]
        rw [if_neg (by simp), h1 _ (by omega)]
        simp only [Option.bind_some]
        rw [h2 _ (by omega)]
        simp only [Option.bind_some]
        rw [he _ (by omega) (by omega)]
        exact hK _ (by omega)
      simp only [if_neg hb]
      by_cases q1 : c1 = true
      · by_cases q3 : (x1.length : Int) > 8
        · exact fin true (hj1 true (fun h => by cases h)) (fun k _ _ => by rw [if_pos q1, if_pos q3])
        · exact fin (!c2) (hj1 (!c2) (fun h => ⟨q1, by simpa using h, by omega⟩)) (fun k _ _ => by rw [if_pos q1, if_neg q3])
      · exact fin true (hj1 true (fun h => by cases h)) (fun k _ _ => by rw [if_neg q1])
end Go.Proofs.YthecfligfhpccaaDoor.Pure
