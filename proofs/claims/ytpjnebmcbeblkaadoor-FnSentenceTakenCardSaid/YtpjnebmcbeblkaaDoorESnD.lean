/- isDelim, isFollower: what they tell. -/
import Derived.Test.YtpjnebmcbeblkaaDoorESnA
import Derived.Test.YtpjnebmcbeblkaaDoorXEv
import Derived.Test.YtpjnebmcbeblkaaDoorP35
import Derived.Test.YtpjnebmcbeblkaaDoorP36
set_option linter.unusedVariables false
namespace Go.Proofs.YtpjnebmcbeblkaaDoor.Sn
open Go.RowKit Go.Lib Go.Proofs.YtpjnebmcbeblkaaDoorW.PrintWords Go.Proofs.YtpjnebmcbeblkaaDoor.Gn Go.Proofs.YtpjnebmcbeblkaaDoor.X Go.Proofs.YtpjnebmcbeblkaaDoor.P Go.Proofs.YtpjnebmcbeblkaaDoor.X
theorem delim_l0 (r : Int) (l : List Int) (hl : l.length ≤ 9223372036854775806) : ∀ (d i : Nat), i + d = l.length → filter_SentenceSplitter_isDelim.l0 (d + 1) r l (l.length : Int) (i : Int) = some ((l.drop i).any (· == r)) := by
  intro d
  induction d with
  | zero =>
    intro i hi
    rw [List.drop_of_length_le (by omega)]
    simp only [filter_SentenceSplitter_isDelim.l0]
    rw [if_neg (by omega)]
    rfl
  | succ d ih =>
    intro i hi
    have hlt : i < l.length := by omega
    rw [filter_SentenceSplitter_isDelim.l0, if_pos (by omega), if_pos (by omega), if_pos (by omega), rd_nat _ _ hlt, List.drop_eq_getElem_cons hlt, List.any_cons]
    by_cases e : r = l[i]
    · rw [if_pos e]; simp [e]
    · rw [if_neg e, wr1 (by omega) (by omega)]
      have := ih (i + 1) (by omega)
      rw [Int.natCast_add] at this
      rw [show ((i : Int) + 1) = (i : Int) + ((1 : Nat) : Int) from rfl, this]
      have : (l[i] == r) = false := beq_eq_false_iff_ne.2 (fun g => e g.symm)
      rw [this, Bool.false_or]
theorem follow_l0 (r : Int) (l : List Int) (hl : l.length ≤ 9223372036854775806) : ∀ (d i : Nat), i + d = l.length → filter_SentenceSplitter_isFollower.l0 (d + 1) r l (l.length : Int) (i : Int) = some ((l.drop i).any (· == r)) := by
  intro d
  induction d with
  | zero =>
    intro i hi
    rw [List.drop_of_length_le (by omega)]
    simp only [filter_SentenceSplitter_isFollower.l0]
    rw [if_neg (by omega)]
    rfl
  | succ d ih =>
    intro i hi
    have hlt : i < l.length := by omega
    rw [filter_SentenceSplitter_isFollower.l0, if_pos (by omega), if_pos (by omega), if_pos (by omega), rd_nat _ _ hlt, List.drop_eq_getElem_cons hlt, List.any_cons]
    by_cases e : r = l[i]
    · rw [if_pos e]; simp [e]
    · rw [if_neg e, wr1 (by omega) (by omega)]
      have := ih (i + 1) (by omega)
      rw [Int.natCast_add] at this
      rw [show ((i : Int) + 1) = (i : Int) + ((1 : Nat) : Int) from rfl, this]
      have : (l[i] == r) = false := beq_eq_false_iff_ne.2 (fun g => e g.symm)
      rw [this, Bool.false_or]
/-- The struct's value. -/
def spV (o : Sp) (A0 A1 : Option Addr) (c0 c1 : Nat) : Value := .agg #[.slice A0 o.ends.length c0, .slice A1 o.fol.length c1, .bool o.skip, .bool o.lines, .int .i64 o.max]
/-- Its two rows can be read. -/
structure Rd (o : Sp) (A0 A1 : Option Addr) (c0 c1 : Nat) (W : World) : Prop where
  r0 : Kd.C (Kd.int .i32) W A0 o.ends.length o.ends
  h0 : o.ends.length ≤ c0
  l0 : o.ends.length ≤ 1000000000
  r1 : Kd.C (Kd.int .i32) W A1 o.fol.length o.fol
  h1 : o.fol.length ≤ c1
  l1 : o.fol.length ≤ 1000000000
theorem delim_calls {o : Sp} {A0 A1 : Option Addr} {c0 c1 : Nat} {W : World} (h : Rd o A0 A1 c0 c1 W) (r : Int) :
    Calls Tryd.prog 35 #[.agg #[.slice A0 o.ends.length c0, .slice A1 o.fol.length c1, .bool o.skip, .bool o.lines, .int .i64 o.max], .int .i32 r] W fun e w' => e = .returned (.bool (isD o r)) ∧ Chg [] W w' :=
  (filter_SentenceSplitter_isDelim.calls (o.ends.length + 1) A0 c0 o.ends A1 c1 o.fol o.skip o.lines o.max r (isD o r) W h.r0 h.h0 h.r1 h.h1 (by
    unfold filter_SentenceSplitter_isDelim.f
    exact delim_l0 r o.ends (by have := h.l0; omega) o.ends.length 0 (by omega))).mono fun e w' ⟨h1, h2⟩ => ⟨h1, Chg.below h2⟩
theorem follow_calls {o : Sp} {A0 A1 : Option Addr} {c0 c1 : Nat} {W : World} (h : Rd o A0 A1 c0 c1 W) (r : Int) :
    Calls Tryd.prog 36 #[.agg #[.slice A0 o.ends.length c0, .slice A1 o.fol.length c1, .bool o.skip, .bool o.lines, .int .i64 o.max], .int .i32 r] W fun e w' => e = .returned (.bool (isF o r)) ∧ Chg [] W w' :=
  (filter_SentenceSplitter_isFollower.calls (o.fol.length + 1) A0 c0 o.ends A1 c1 o.fol o.skip o.lines o.max r (isF o r) W h.r0 h.h0 h.r1 h.h1 (by
    unfold filter_SentenceSplitter_isFollower.f
    exact follow_l0 r o.fol (by have := h.l1; omega) o.fol.length 0 (by omega))).mono fun e w' ⟨h1, h2⟩ => ⟨h1, Chg.below h2⟩
end Go.Proofs.YtpjnebmcbeblkaaDoor.Sn
