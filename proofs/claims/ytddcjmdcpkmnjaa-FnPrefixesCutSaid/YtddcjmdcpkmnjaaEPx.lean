/- The double array, plain: one sign further along a text, and whether a word ends there. -/
import Derived.Test.YtddcjmdcpkmnjaaMBu
set_option linter.unusedVariables false
namespace Go.Proofs.Ytddcjmdcpkmnjaa.Da
/-- The beginnings of s that are words, the first n signs looked at: numbers and lengths. -/
def pfx (kw : List ByteArray) (ids : List Int) (s : ByteArray) (n : Nat) : List (Int × Int) := (List.range n).filterMap fun t => if s.extract 0 (t + 1) ∈ kw then some (idOf kw ids (s.extract 0 (t + 1)), (t : Int) + 1) else none
theorem pfx_zero (kw : List ByteArray) (ids : List Int) (s : ByteArray) : pfx kw ids s 0 = [] := rfl
theorem pfx_hit {kw : List ByteArray} {ids : List Int} {s : ByteArray} {t : Nat} (h : s.extract 0 (t + 1) ∈ kw) : pfx kw ids s (t + 1) = pfx kw ids s t ++ [(idOf kw ids (s.extract 0 (t + 1)), (t : Int) + 1)] := by
  unfold pfx
  rw [List.range_succ, List.filterMap_append]
  simp [h]
theorem pfx_miss {kw : List ByteArray} {ids : List Int} {s : ByteArray} {t : Nat} (h : s.extract 0 (t + 1) ∉ kw) : pfx kw ids s (t + 1) = pfx kw ids s t := by
  unfold pfx
  rw [List.range_succ, List.filterMap_append]
  simp [h]
theorem pfx_stop {kw : List ByteArray} {ids : List Int} {s : ByteArray} {t : Nat} (h : ¬ ∃ u ∈ kw, pre s (t + 1) u) : ∀ n, t + n ≤ s.size → pfx kw ids s (t + n) = pfx kw ids s t := by
  intro n
  induction n with
  | zero => intro _; rfl
  | succ n ih =>
    intro hn
    rw [show t + (n + 1) = t + n + 1 by omega, pfx_miss, ih (by omega)]
    intro hm
    obtain ⟨h1, _⟩ := (pre_whole s (t + n + 1) (by omega) _).2 rfl
    exact h ⟨_, hm, h1.shorter (by omega)⟩
/-- What one round finds. -/
inductive Round (kw : List ByteArray) (ids : List Int) (m : Nat) (B C : Nat → Int) (s : ByteArray) (j p c base : Nat) : Prop where
  | far (h : m ≤ base + c) (e : pfx kw ids s s.size = pfx kw ids s j) : Round kw ids m B C s j p c base
  | other (h : base + c < m) (cv : Int) (h1 : C (base + c) = cv) (h2 : cv ≠ (p : Int)) (h3 : -60000 ≤ cv ∧ cv ≤ 60000) (e : pfx kw ids s s.size = pfx kw ids s j) : Round kw ids m B C s j p c base
  | hit (h : base + c < m) (h1 : C (base + c) = (p : Int)) (on : On kw ids m B C s (j + 1) (base + c)) (b2 : Nat) (h2 : B (base + c) = (b2 : Int)) (h3 : b2 < m) (h4 : C b2 = ((base + c : Nat) : Int)) (y : Int) (h5 : B b2 = -y) (h6 : 0 ≤ y ∧ y ≤ 1100000) (e : pfx kw ids s (j + 1) = pfx kw ids s j ++ [(y, (j : Int) + 1)]) : Round kw ids m B C s j p c base
  | end1 (h : base + c < m) (h1 : C (base + c) = (p : Int)) (on : On kw ids m B C s (j + 1) (base + c)) (b2 : Nat) (h2 : B (base + c) = (b2 : Int)) (h3 : m ≤ b2) (h4 : b2 < 60000) (e : pfx kw ids s (j + 1) = pfx kw ids s j) : Round kw ids m B C s j p c base
  | end2 (h : base + c < m) (h1 : C (base + c) = (p : Int)) (on : On kw ids m B C s (j + 1) (base + c)) (b2 : Nat) (h2 : B (base + c) = (b2 : Int)) (h3 : b2 < m) (cv : Int) (h4 : C b2 = cv) (h5 : cv ≠ ((base + c : Nat) : Int)) (h6 : -60000 ≤ cv ∧ cv ≤ 60000) (e : pfx kw ids s (j + 1) = pfx kw ids s j) : Round kw ids m B C s j p c base
theorem On.round {kw : List ByteArray} {ids : List Int} {m : Nat} {B C : Nat → Int} {s : ByteArray} {j p : Nat} (hT : TrieOk kw ids m B C) (h : On kw ids m B C s j p) (hj : j < s.size) (hz : (s.get! j).toNat ≠ 0) :
    ∃ base c : Nat, B p = (base : Int) ∧ 1 ≤ base ∧ base < 60000 ∧ (s[j]'hj).toNat = c ∧ 0 < c ∧ c < 256 ∧ Round kw ids m B C s j p c base := by
  obtain ⟨c, hc⟩ : ∃ c, c = (s.get! j).toNat := ⟨_, rfl⟩
  have hch : chAt s j = c := by unfold chAt; rw [if_pos hj, hc]
  obtain ⟨base, e1, e2, e3, e4, e5⟩ := h.step (by rw [hch, hc]; exact hz)
  rw [hch] at e4 e5
  have hcs : (s[j]'hj).toNat = c := by rw [hc]; show _ = (s.data[j]!).toNat; rw [getElem!_pos s.data j hj]; rfl
  have hc255 : c < 256 := by rw [← hcs]; exact UInt8.toNat_lt _
  refine ⟨base, c, e1, e2, e3, hcs, by omega, hc255, ?_⟩
  have hstop : (¬ ∃ u ∈ kw, pre s (j + 1) u) → pfx kw ids s s.size = pfx kw ids s j := fun g => by
    have := pfx_stop (ids := ids) g (s.size - j) (by omega)
    rwa [show j + (s.size - j) = s.size by omega] at this
  by_cases hu : ∃ u ∈ kw, pre s (j + 1) u
  · obtain ⟨g1, g2, g3⟩ := e4 hu
    obtain ⟨b2, f1, f2, f3, f4, f5⟩ := g3.term (by omega)
    by_cases hm : s.extract 0 (j + 1) ∈ kw
    · obtain ⟨k1, k2, k3, k4, k5⟩ := f4 hm
      exact .hit g1 g2 g3 b2 f1 k1 k2 _ k3 ⟨k4, k5⟩ (pfx_hit hm)
    · by_cases hb : b2 < m
      · exact .end2 g1 g2 g3 b2 f1 hb _ rfl (fun q => f5 hm ⟨hb, q⟩) (hT.cb _ hb) (pfx_miss hm)
      · exact .end1 g1 g2 g3 b2 f1 (by omega) f3 (pfx_miss hm)
  · have hno := e5 hu
    by_cases hb : base + c < m
    · exact .other hb _ rfl (fun q => hno ⟨hb, q⟩) (hT.cb _ hb) (hstop hu)
    · exact .far (by omega) (hstop hu)
end Go.Proofs.Ytddcjmdcpkmnjaa.Da
