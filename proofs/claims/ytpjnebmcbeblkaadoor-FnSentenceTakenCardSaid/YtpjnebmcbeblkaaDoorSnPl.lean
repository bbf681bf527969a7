/- Sentences, plain: what a call tells. -/
import Derived.Test.YtpjnebmcbeblkaaDoorESen
set_option linter.unusedVariables false
namespace Go.Proofs.YtpjnebmcbeblkaaDoor.Sn
open Go.RowKit Go.Lib
theorem space_off {o : Sp} (h : o.skip = false) (r : Int) : space o r = false := by unfold space; rw [h]; rfl
theorem put_same (s : ByteArray) (p n : Nat) : put s p p n = s := by unfold put; rw [if_pos rfl]
theorem tail_adv (o : Sp) (st : Nat) : ∀ (k : Nat) (d : ByteArray) (p e : Nat) (nn : Bool), p ≤ d.size → (tail o st k d p e nn).adv ≤ d.size
  | 0, d, p, e, nn, h => h
  | k + 1, d, p, e, nn, h => by
    rw [tail]
    by_cases hlt : p < d.size
    · rw [if_pos hlt]
      have h1 := sg_le d p hlt
      split
      · split
        · split
          · exact h1
          · exact tail_adv o st k d _ _ _ h1
        · exact tail_adv o st k d _ _ _ h1
      · split
        · have := tail_adv o st k (put d e p (sg d p).2) (p + (sg d p).2) (e + (sg d p).2) nn (by rw [put_size]; exact h1)
          rw [put_size] at this
          exact this
        · exact h
    · rw [if_neg hlt]; exact h
theorem scan_adv (o : Sp) (eof : Bool) : ∀ (k : Nat) (d : ByteArray) (p st e : Nat) (rc : Int) (head nn : Bool), p ≤ d.size → st ≤ p → (scan o eof k d p st e rc head nn).adv ≤ d.size
  | 0, d, p, st, e, rc, head, nn, h, h2 => Nat.zero_le _
  | k + 1, d, p, st, e, rc, head, nn, h, h2 => by
    rw [scan]
    by_cases hlt : p < d.size
    · rw [if_pos hlt]
      have h1 := sg_le d p hlt
      split
      · split
        · exact scan_adv o eof k d _ _ _ _ _ _ h1 (Nat.le_refl _)
        · split
          · exact h1
          · split
            · split
              · exact h1
              · exact scan_adv o eof k d _ _ _ _ _ _ h1 (by omega)
            · exact scan_adv o eof k d _ _ _ _ _ _ h1 (by omega)
      · split
        · exact h1
        · split
          · have := scan_adv o eof k (put d e p (sg d p).2) (p + (sg d p).2) st (e + (sg d p).2) (rc + 1) false ((o.lines && ((sg d p).1 : Int) == 10) || nn) (by rw [put_size]; exact h1) (by omega)
            rw [put_size] at this
            exact this
          · have := tail_adv o st (d.size + 1) (put d e p (sg d p).2) (p + (sg d p).2) (e + (sg d p).2) false (by rw [put_size]; exact h1)
            rw [put_size] at this
            exact this
    · rw [if_neg hlt]
      split
      · exact Nat.le_refl _
      · exact Nat.le_trans h2 h
theorem call_adv (o : Sp) (s : ByteArray) (eof : Bool) : (call o s eof).adv ≤ s.size := by
  unfold call
  split
  · exact Nat.zero_le _
  · exact scan_adv o eof _ s 0 0 0 0 true false (Nat.zero_le _) (Nat.le_refl _)
theorem tail_plain {o : Sp} (ho : o.skip = false) (st : Nat) : ∀ (k : Nat) (d : ByteArray) (p : Nat) (nn : Bool), p ≤ d.size → ∃ q, p ≤ q ∧ q ≤ d.size ∧ tail o st k d p p nn = ⟨q, some (st, q), d⟩
  | 0, d, p, nn, h => ⟨p, Nat.le_refl _, h, rfl⟩
  | k + 1, d, p, nn, h => by
    rw [tail]
    by_cases hlt : p < d.size
    · rw [if_pos hlt, if_neg (by rw [space_off ho]; decide), put_same]
      have h1 := sg_le d p hlt
      split
      · obtain ⟨q, q1, q2, q3⟩ := tail_plain ho st k d (p + (sg d p).2) nn h1
        exact ⟨q, by omega, q2, q3⟩
      · exact ⟨p, Nat.le_refl _, h, rfl⟩
    · rw [if_neg hlt]; exact ⟨p, Nat.le_refl _, h, rfl⟩
theorem scan_plain {o : Sp} (ho : o.skip = false) (eof : Bool) (st : Nat) : ∀ (k : Nat) (d : ByteArray) (p : Nat) (rc : Int) (head nn : Bool), p ≤ d.size → d.size < p + k →
    (∃ q, p ≤ q ∧ q ≤ d.size ∧ scan o eof k d p st p rc head nn = ⟨q, some (st, q), d⟩) ∨ (eof = false ∧ scan o eof k d p st p rc head nn = ⟨st, none, d⟩)
  | 0, d, p, rc, head, nn, h, hk => by omega
  | k + 1, d, p, rc, head, nn, h, hk => by
    rw [scan]
    by_cases hlt : p < d.size
    · rw [if_pos hlt, if_neg (by rw [space_off ho]; decide), put_same]
      have h1 := sg_le d p hlt
      have h0 := sg_pos d p hlt
      split
      · exact .inl ⟨_, by omega, h1, rfl⟩
      · split
        · rcases scan_plain ho eof st k d (p + (sg d p).2) (rc + 1) false ((o.lines && ((sg d p).1 : Int) == 10) || nn) h1 (by omega) with ⟨q, q1, q2, q3⟩ | h3
          · exact .inl ⟨q, by omega, q2, q3⟩
          · exact .inr h3
        · obtain ⟨q, q1, q2, q3⟩ := tail_plain ho st (d.size + 1) d (p + (sg d p).2) false h1
          exact .inl ⟨q, by omega, q2, q3⟩
    · rw [if_neg hlt]
      have hp : p = d.size := by omega
      cases eof with
      | true => rw [if_pos rfl, ← hp]; exact .inl ⟨p, Nat.le_refl _, by omega, rfl⟩
      | false => rw [if_neg (by decide), hp, Nat.sub_self]; exact .inr ⟨rfl, rfl⟩
theorem call_plain {o : Sp} (ho : o.skip = false) (s : ByteArray) (eof : Bool) : (∃ q, q ≤ s.size ∧ call o s eof = ⟨q, some (0, q), s⟩) ∨ call o s eof = ⟨0, none, s⟩ := by
  unfold call
  split
  · exact .inr rfl
  · rcases scan_plain ho eof 0 (s.size + 1) s 0 0 true false (Nat.zero_le _) (by omega) with ⟨q, _, h2, h3⟩ | ⟨_, h⟩
    · exact .inl ⟨q, h2, h3⟩
    · exact .inr h
theorem empty_list : (ByteArray.empty).toList = ([] : List UInt8) := by rw [ByteArray.toList_eq]; rfl
end Go.Proofs.YtpjnebmcbeblkaaDoor.Sn
namespace Go.Proofs.YtpjnebmcbeblkaaDoor.P
open Go.Proofs.YtpjnebmcbeblkaaDoor.Sn
/-- What a call tells, for the walk of the law. -/
theorem Sentence_told {x0 f0 f1 : ByteArray} {f2 f3 : Bool} {f4 : Int} {x2 : Bool} {r0 : Int} {r1 : ByteArray} {r2 : Bool} {r3 : ByteArray} (h : impl_Sentence.f x0 f0 f1 f2 f3 f4 x2 = some (r0, r1, r2, r3)) :
    (r0 ≥ 0 ∧ r0 ≤ (x0.size : Int)) ∧ (r2 = false → r1.toList = ([] : List UInt8)) ∧ (f2 = false → r3.toList = x0.toList) := by
  unfold impl_Sentence.f at h
  split at h
  · injection h with h
    simp only [Prod.mk.injEq] at h
    obtain ⟨rfl, rfl, rfl, rfl⟩ := h
    refine ⟨⟨by omega, by have := call_adv (spOf f0 f1 f2 f3 f4) x0 x2; omega⟩, fun h => ?_, fun h => ?_⟩
    · unfold tokOf
      cases ht : (call (spOf f0 f1 f2 f3 f4) x0 x2).tok with
      | none => exact empty_list
      | some t => rw [ht] at h; cases h
    · rcases call_plain (o := spOf f0 f1 f2 f3 f4) h x0 x2 with ⟨q, _, hq⟩ | hq
      · rw [hq]
      · rw [hq]
  · cases h
theorem Sentence_canary : impl_Sentence.f (⟨#[97, 46, 98]⟩ : ByteArray) (⟨#[46]⟩ : ByteArray) (⟨#[]⟩ : ByteArray) false false 10 true = some (2, (⟨#[97, 46]⟩ : ByteArray), true, (⟨#[97, 46, 98]⟩ : ByteArray)) := by
  decide +kernel
theorem Canary_told {r0 : Int} {r1 : ByteArray} {r2 : Bool} {r3 : ByteArray} (h : impl_Sentence.f (⟨#[97, 46, 98]⟩ : ByteArray) (⟨#[46]⟩ : ByteArray) (⟨#[]⟩ : ByteArray) false false 10 true = some (r0, r1, r2, r3)) :
    r0 = 2 ∧ r1.toList = ([97, 46] : List UInt8) ∧ r2 = true ∧ r3.toList = ([97, 46, 98] : List UInt8) := by
  rw [Sentence_canary] at h
  injection h with h
  simp only [Prod.mk.injEq] at h
  obtain ⟨rfl, rfl, rfl, rfl⟩ := h
  exact ⟨rfl, by rw [ByteArray.toList_eq], rfl, by rw [ByteArray.toList_eq]⟩
end Go.Proofs.YtpjnebmcbeblkaaDoor.P
