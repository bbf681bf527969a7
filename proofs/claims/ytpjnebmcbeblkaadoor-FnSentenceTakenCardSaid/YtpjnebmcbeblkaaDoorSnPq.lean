/- A short text without a sign that ends one, plain. -/
import Derived.Test.YtpjnebmcbeblkaaDoorSnPs
import Derived.Test.YtpjnebmcbeblkaaDoorP21
import Derived.Test.YtpjnebmcbeblkaaDoorP12
set_option linter.unusedVariables false
namespace Go.Proofs.YtpjnebmcbeblkaaDoor.Sn
open Go.RowKit Go.Lib Go.Proofs.YtpjnebmcbeblkaaDoorW.PrintWords Go.Proofs.YtpjnebmcbeblkaaDoorW.PrintLast Go.Proofs.YtpjnebmcbeblkaaDoorW.PrintMore Go.Proofs.YtpjnebmcbeblkaaDoor.P Go.Proofs.YtpjnebmcbeblkaaDoor.X
theorem blank_none (s : ByteArray) (e : Nat) : blank s e 0 = s := rfl
theorem scan_short {o : Sp} (ho : o.skip = false) (hn : o.lines = false) (eof : Bool) (s : ByteArray) : ∀ (l : List ByteArray) (k p : Nat) (rc : Int) (head nn : Bool), Chk l (s.extract p s.size) → (∀ c ∈ l, ∀ x, 0 < x.size → Valid x → c = x.extract 0 (dec x).2 → isD o ((dec x).1 : Int) = false) → p ≤ s.size → s.size < p + k → rc + l.length < o.max →
    scan o eof k s p 0 p rc head nn = if eof then ⟨s.size, some (0, s.size), s⟩ else ⟨0, none, s⟩
  | l, 0, p, rc, head, nn, h, hd, hp, hk, hm => by omega
  | [], k + 1, p, rc, head, nn, h, hd, hp, hk, hm => by
    have hz : (s.extract p s.size).size = s.size - p := by rw [ByteArray.size_extract]; omega
    have h : (s.extract p s.size).size = 0 := h
    have e : p = s.size := by omega
    rw [scan, if_neg (by omega), e, Nat.sub_self, blank_none]
  | c :: l, k + 1, p, rc, head, nn, h, hd, hp, hk, hm => by
    obtain ⟨h0, hv, hc, hl⟩ := h
    have hz : (s.extract p s.size).size = s.size - p := by rw [ByteArray.size_extract]; omega
    have hlt : p < s.size := by omega
    have hle := sg_le s p hlt
    have hg := sg_pos s p hlt
    have hdl := hd c List.mem_cons_self _ h0 hv hc
    rw [← sg_suf] at hdl hl
    rw [suf_suf s p _ hle] at hl
    simp only [List.length_cons, Int.natCast_add, Int.natCast_one] at hm
    rw [scan, if_pos hlt, if_neg (by rw [space_off ho]; decide), put_same, hn, if_neg (by simp), hdl, if_pos (by simp; omega)]
    exact scan_short ho hn eof s l k _ (rc + 1) false _ hl (fun c' hc' => hd c' (List.mem_cons_of_mem _ hc')) hle (by omega) (by omega)
theorem call_short {o : Sp} (ho : o.skip = false) (hn : o.lines = false) (eof : Bool) (s : ByteArray) (l : List ByteArray) (h : Chk l s) (hd : ∀ c ∈ l, ∀ x, 0 < x.size → Valid x → c = x.extract 0 (dec x).2 → isD o ((dec x).1 : Int) = false) (h0 : 0 < l.length) (hm : (l.length : Int) < o.max) :
    call o s eof = if eof then ⟨s.size, some (0, s.size), s⟩ else ⟨0, none, s⟩ := by
  have hs : 0 < s.size := by
    cases l with
    | nil => simp at h0
    | cons c l => exact h.1
  unfold call
  rw [show (s.size == 0) = false from beq_eq_false_iff_ne.2 (by omega), Bool.and_false, if_neg (by decide)]
  exact scan_short ho hn eof s l (s.size + 1) 0 0 true false (by rw [ByteArray.extract_zero_size]; exact h) hd (Nat.zero_le _) (by omega) (by omega)
/-- A sign that is not among the ends' signs ends nothing. -/
theorem isD_off {o : Sp} {a : ByteArray} (ho : o.ends = runes a) {la : List ByteArray} (ha : Chk la a) {c x : ByteArray} (hx : 0 < x.size) (hv : Valid x) (hc : c = x.extract 0 (dec x).2) (hno : ∀ e ∈ la, e.toList ≠ c.toList) : isD o ((dec x).1 : Int) = false := by
  unfold isD
  rw [ho, List.any_eq_false]
  intro r hr g
  have g : r = ((dec x).1 : Int) := by simpa using g
  obtain ⟨e, he, y, hy, vy, ey, er⟩ := runes_mem a la a.size 0 (by rw [ByteArray.extract_zero_size]; exact ha) (Nat.zero_le _) r hr
  refine hno e he ?_
  rw [ey, hc]
  exact sign_inj hy hx vy hv (by omega)
theorem chk_len : ∀ (l : List ByteArray) (x : ByteArray), Chk l x → l.length ≤ x.size
  | [], x, h => Nat.zero_le _
  | c :: l, x, h => by
    obtain ⟨h0, hv, hc, hl⟩ := h
    have h1 := chk_len l _ hl
    have h2 : 1 ≤ (dec x).2 := by
      have := sg_pos x 0 h0
      rwa [sg_suf, ByteArray.extract_zero_size] at this
    rw [ByteArray.size_extract] at h1
    rw [List.length_cons]
    omega
theorem has_l0 (c : ByteArray) (la : List ByteArray) (hl : la.length ≤ 9223372036854775806) (d : Nat) : ∀ i : Nat, i + d = la.length → ∃ b, Ev (fun k => laws_has.l0 k c la (la.length : Int) (i : Int)) b ∧ (b = false → ∀ j, i ≤ j → ∀ h : j < la.length, la[j].toList ≠ c.toList) := by
  induction d with
  | zero => intro i hi; exact ⟨false, ev1 0 fun k _ => by simp only [laws_has.l0]; rw [if_neg (by omega)], fun _ j h1 h2 => by omega⟩
  | succ d ih =>
    intro i hi
    obtain ⟨b, ⟨K, hK⟩, hb⟩ := ih (i + 1) (by omega)
    have hr := rdOf_nat ByteArray.empty la i (by omega)
    by_cases e : la[i].toList = c.toList
    · exact ⟨true, ev1 0 fun k _ => by simp only [laws_has.l0]; rw [if_pos (by omega), if_pos (by omega), if_pos (by omega), hr, if_pos e], fun h => by cases h⟩
    · refine ⟨b, ev1 K fun k hk => ?_, fun h j h1 h2 => ?_⟩
      · simp only [laws_has.l0]
        rw [if_pos (by omega), if_pos (by omega), if_pos (by omega), hr, if_neg e, wr1 (by omega) (by omega)]
        exact hK k hk
      · by_cases q : j = i
        · subst q; exact e
        · exact hb h j (by omega) h2
theorem has_ev {a : ByteArray} {la : List ByteArray} (ha : Ev (fun k => laws_signs.f k a) (la, true)) (hl : la.length ≤ 9223372036854775806) (c : ByteArray) : ∃ b, Ev (fun k => laws_has.f k a c) b ∧ (b = false → ∀ e ∈ la, e.toList ≠ c.toList) := by
  obtain ⟨b, ⟨K, hK⟩, hb⟩ := has_l0 c la hl la.length 0 (by omega)
  obtain ⟨K2, hK2⟩ := ha
  dsimp only at hK hK2
  refine ⟨b, ⟨max K K2, fun k hk => ?_⟩, fun h e he => ?_⟩
  · simp only [laws_has.f]
    rw [hK2 k (by omega)]
    exact hK k (by omega)
  · obtain ⟨j, hj, rfl⟩ := List.getElem_of_mem he
    exact hb h j (by omega) hj
theorem hasOf_l0 {a f : ByteArray} {la lf : List ByteArray} (ha : Ev (fun k => laws_signs.f k a) (la, true)) (hla : la.length ≤ 9223372036854775806) (hf : Ev (fun k => laws_signs.f k f) (lf, true)) (hlf : lf.length ≤ 9223372036854775806) (sk ln : Bool) (mx : Int) (l : List ByteArray) (hl : l.length ≤ 9223372036854775806) (d : Nat) :
    ∀ i : Nat, i + d = l.length → ∃ b, Ev (fun k => laws_hasOf.l0 k l (l.length : Int) (i : Int) a f sk ln mx) b ∧ (b = false → ∀ j, i ≤ j → ∀ h : j < l.length, ∀ e ∈ la, e.toList ≠ l[j].toList) := by
  induction d with
  | zero => intro i hi; exact ⟨false, ev1 0 fun k _ => by simp only [laws_hasOf.l0]; rw [if_neg (by omega)], fun _ j h1 h2 => by omega⟩
  | succ d ih =>
    intro i hi
    obtain ⟨b, ⟨K, hK⟩, hb⟩ := ih (i + 1) (by omega)
    have hr := rdOf_nat ByteArray.empty l i (by omega)
    obtain ⟨b1, ⟨K1, hK1⟩, hb1⟩ := has_ev ha hla l[i]
    obtain ⟨b2, ⟨K2, hK2⟩, hb2⟩ := has_ev hf hlf l[i]
    dsimp only at hK1 hK2
    cases b1 with
    | true => exact ⟨true, ev1 K1 fun k hk => by simp only [laws_hasOf.l0]; rw [if_pos (by omega), if_pos (by omega), if_pos (by omega), hr, hK1 k hk]; simp, fun h => by cases h⟩
    | false =>
      cases b2 with
      | true => exact ⟨true, ev1 (max K1 K2) fun k hk => by simp only [laws_hasOf.l0]; rw [if_pos (by omega), if_pos (by omega), if_pos (by omega), hr, hK1 k (by omega), hK2 k (by omega)]; simp, fun h => by cases h⟩
      | false =>
        refine ⟨b, ev1 (max K (max K1 K2)) fun k hk => ?_, fun h j h1 h2 => ?_⟩
        · simp only [laws_hasOf.l0]
          rw [if_pos (by omega), if_pos (by omega), if_pos (by omega), hr, hK1 k (by omega), hK2 k (by omega), wr1 (by omega) (by omega)]
          exact hK k (by omega)
        · by_cases q : j = i
          · subst q; exact hb1 rfl
          · exact hb h j (by omega) h2
theorem hasOf_ev {a f : ByteArray} {la lf : List ByteArray} (ha : Ev (fun k => laws_signs.f k a) (la, true)) (hla : la.length ≤ 9223372036854775806) (hf : Ev (fun k => laws_signs.f k f) (lf, true)) (hlf : lf.length ≤ 9223372036854775806) (sk ln : Bool) (mx : Int) (l : List ByteArray) (hl : l.length ≤ 9223372036854775806) :
    ∃ b, Ev (fun k => laws_hasOf.f k l a f sk ln mx) b ∧ (b = false → ∀ c ∈ l, ∀ e ∈ la, e.toList ≠ c.toList) := by
  obtain ⟨b, ⟨K, hK⟩, hb⟩ := hasOf_l0 ha hla hf hlf sk ln mx l hl l.length 0 (by omega)
  refine ⟨b, ⟨K, fun k hk => by simp only [laws_hasOf.f]; exact hK k hk⟩, fun h c hc => ?_⟩
  obtain ⟨j, hj, rfl⟩ := List.getElem_of_mem hc
  exact hb h j (by omega) hj
end Go.Proofs.YtpjnebmcbeblkaaDoor.Sn
