/- The plain law of FnSentencesUsual. -/
import Derived.Test.YtpjnebmcbeblkaaDoorQSe
import Derived.Test.YtpjnebmcbeblkaaDoorP4
set_option linter.unusedVariables false
namespace Go.Proofs.YtpjnebmcbeblkaaDoor.Pure
open Go.RowKit Go.Lib Go.Proofs.YtpjnebmcbeblkaaDoorW.PrintWords Go.Proofs.YtpjnebmcbeblkaaDoorW.PrintLast Go.Proofs.YtpjnebmcbeblkaaDoorW.PrintMore Go.Proofs.YtpjnebmcbeblkaaDoor.P Go.Proofs.YtpjnebmcbeblkaaDoor.X Go.Proofs.YtpjnebmcbeblkaaDoor.Sn
/-- A sign that is white space is one of those that the law leaves out. -/
def Out_ (c : ByteArray) : Prop := bt c 0 ≤ 32 ∨ c.toList = ([227, 128, 128] : List UInt8) ∨ c.toList = ([194, 133] : List UInt8) ∨ c.toList = ([194, 160] : List UInt8) ∨ ((c.size : Int) = 3 ∧ ¬ (Op.bytesLess c.toList ([226, 128, 128] : List UInt8) = true) ∧ ¬ (Op.bytesLess ([226, 129, 159] : List UInt8) c.toList = true)) ∨ c.toList = ([225, 154, 128] : List UInt8)
theorem piece_enc {c : ByteArray} (hc : Piece c) : c.toList = encodeRune ((dec c).1 : Int) := by
  have hne : c.toList ≠ [] := fun e => by have := toList_len c; rw [e] at this; have := hc.1; simp at *; omega
  have hd := dec_L c hc.1
  have hv := hc.2.1
  unfold Valid at hv
  have hz := hc.2.2
  rw [hd] at hv hz ⊢
  rw [encode_decode _ hne hv, hz, ← toList_len c, List.take_length]
theorem bt_list {c : ByteArray} {b : UInt8} {l : List UInt8} (h : c.toList = b :: l) : bt c 0 = (b.toNat : Int) := by
  have e : c = ⟨(b :: l).toArray⟩ := by
    apply ByteArray.ext
    rw [ByteArray.toList_eq] at h
    rw [← Array.toList_inj, h]
  subst e
  rfl
theorem space_out {c : ByteArray} (hc : Piece c) (hs : Lib.isSpaceZ ((dec c).1 : Int) = true) : Out_ c := by
  have he := piece_enc hc
  rw [isSpaceZ_nat] at hs
  have hz := toList_len c
  generalize (dec c).1 = r at *
  have hr : r = 9 ∨ r = 10 ∨ r = 11 ∨ r = 12 ∨ r = 13 ∨ r = 32 ∨ r = 133 ∨ r = 160 ∨ r = 5760 ∨ r = 8192 ∨ r = 8193 ∨ r = 8194 ∨ r = 8195 ∨ r = 8196 ∨ r = 8197 ∨ r = 8198 ∨ r = 8199 ∨ r = 8200 ∨ r = 8201 ∨ r = 8202 ∨ r = 8232 ∨ r = 8233 ∨ r = 8239 ∨ r = 8287 ∨ r = 12288 := by
    simp [isSpaceR] at hs
    omega
  unfold Out_
  rcases hr with rfl | rfl | rfl | rfl | rfl | rfl | rfl | rfl | rfl | rfl | rfl | rfl | rfl | rfl | rfl | rfl | rfl | rfl | rfl | rfl | rfl | rfl | rfl | rfl | rfl
  · left; rw [bt_list (b := 9) (l := []) (he.trans (by decide +kernel))]; decide
  · left; rw [bt_list (b := 10) (l := []) (he.trans (by decide +kernel))]; decide
  · left; rw [bt_list (b := 11) (l := []) (he.trans (by decide +kernel))]; decide
  · left; rw [bt_list (b := 12) (l := []) (he.trans (by decide +kernel))]; decide
  · left; rw [bt_list (b := 13) (l := []) (he.trans (by decide +kernel))]; decide
  · left; rw [bt_list (b := 32) (l := []) (he.trans (by decide +kernel))]; decide
  · right; right; left; rw [he]; decide +kernel
  · right; right; right; left; rw [he]; decide +kernel
  · right; right; right; right; right; rw [he]; decide +kernel
  iterate 15 · right; right; right; right; left; rw [he] at hz ⊢; refine ⟨?_, by decide +kernel, by decide +kernel⟩; rw [← hz]; decide +kernel
  · right; left; rw [he]; decide +kernel
theorem usual_l1 (x0 : ByteArray) (xs : List (List ByteArray)) (hx : catB (xs.map catB) = x0) (hz : x0.size ≤ 2147483647) (hl : xs.length ≤ 2147483647) (h : ∀ m ∈ xs, (catB m).toList ≠ []) (d : Nat) : ∀ i : Nat, i + d = xs.length →
    Ev (fun k => laws_FnSentencesUsual.l1 k x0 (xs.map catB) true (xs.map catB) ((xs.map catB).length : Int) (i : Int)) true := by
  have hn : (xs.map catB).length = xs.length := List.length_map _
  induction d with
  | zero =>
    intro i hi
    obtain ⟨K, hK⟩ := joined_val (xs.map catB) (by rw [hx]; exact hz) (by rw [hn]; exact hl)
    dsimp only at hK
    refine ev1 K fun k hk => ?_
    rw [laws_FnSentencesUsual.l1, if_neg (by omega), if_pos rfl, hK k hk, hx]
    simp only [Option.bind_some]
    simp
  | succ d ih =>
    intro i hi
    obtain ⟨K, hK⟩ := ih (i + 1) (by omega)
    have hrd := rdOf_nat ByteArray.empty (xs.map catB) i (by omega)
    rw [List.getElem_map] at hrd
    dsimp only at hK
    refine ev1 K fun k hk => ?_
    rw [laws_FnSentencesUsual.l1, if_pos (by omega), if_pos (by omega), if_pos (by omega), hrd, if_neg (h xs[i] (List.getElem_mem _)), wr1 (by omega) (by omega)]
    exact hK k (by omega)
theorem usual_l0 (x0 : ByteArray) (l : List ByteArray) (hp : ∀ c ∈ l, Piece c) (hl : l.length ≤ 2147483647) (hfin : (∀ c ∈ l, Lib.isSpaceZ ((dec c).1 : Int) = false) → Ev (fun k => (impl_SentencesUsual.f x0).bind fun b => (laws_FnSentencesUsual.l1 k x0 b.1 b.2 b.1 (b.1.length : Int) 0)) true) (d : Nat) :
    ∀ i : Nat, i + d = l.length → (∀ (j : Nat) (hj : j < l.length), j < i → Lib.isSpaceZ ((dec l[j]).1 : Int) = false) → Ev (fun k => laws_FnSentencesUsual.l0 k x0 l (l.length : Int) (i : Int)) true := by
  induction d with
  | zero =>
    intro i hi hj
    obtain ⟨K, hK⟩ := hfin fun c hc => by
      obtain ⟨j, hj2, rfl⟩ := List.getElem_of_mem hc
      exact hj j hj2 (by omega)
    dsimp only at hK
    exact ev1 K fun k hk => by rw [laws_FnSentencesUsual.l0, if_neg (by omega)]; exact hK k hk
  | succ d ih =>
    intro i hi hj
    have hlt : i < l.length := by omega
    have hpc := hp l[i] (List.getElem_mem _)
    have h0 := hpc.1
    have hrd := rdOf_nat ByteArray.empty l i hlt
    by_cases ho : Out_ l[i]
    · refine ev1 0 fun k _ => ?_
      rw [laws_FnSentencesUsual.l0, if_pos (by omega), if_pos (by omega), if_pos (by omega), hrd, if_pos (by omega)]
      unfold Out_ at ho
      by_cases o1 : bt l[i] 0 ≤ 32
      · rw [if_pos o1]
      · rw [if_neg o1]
        by_cases o2 : l[i].toList = ([227, 128, 128] : List UInt8)
        · rw [if_pos o2]
        · rw [if_neg o2]
          by_cases o3 : l[i].toList = ([194, 133] : List UInt8)
          · rw [if_pos o3]
          · rw [if_neg o3]
            by_cases o4 : l[i].toList = ([194, 160] : List UInt8)
            · rw [if_pos o4]
            · rw [if_neg o4]
              rcases ho with ho | ho | ho | ho | ⟨p1, p2, p3⟩ | ho
              · exact absurd ho o1
              · exact absurd ho o2
              · exact absurd ho o3
              · exact absurd ho o4
              · rw [if_pos p1, if_neg p2, if_neg p3]
              · have hz := toList_len l[i]
                rw [ho] at hz
                have hz : 3 = l[i].size := hz
                rw [if_pos (by omega)]
                have e1 : Op.bytesLess l[i].toList ([226, 128, 128] : List UInt8) = true := by rw [ho]; decide
                rw [if_pos e1, if_pos ho]
    · have hns : Lib.isSpaceZ ((dec l[i]).1 : Int) = false := Bool.eq_false_iff.2 fun e => ho (space_out hpc e)
      obtain ⟨K, hK⟩ := ih (i + 1) (by omega) fun j hj2 g => by
        by_cases e : j = i
        · subst e; exact hns
        · exact hj j hj2 (by omega)
      dsimp only at hK
      refine ev1 K fun k hk => ?_
      unfold Out_ at ho
      have o1 : ¬ bt l[i] 0 ≤ 32 := fun h => ho (.inl h)
      have o2 : ¬ l[i].toList = ([227, 128, 128] : List UInt8) := fun h => ho (.inr (.inl h))
      have o3 : ¬ l[i].toList = ([194, 133] : List UInt8) := fun h => ho (.inr (.inr (.inl h)))
      have o4 : ¬ l[i].toList = ([194, 160] : List UInt8) := fun h => ho (.inr (.inr (.inr (.inl h))))
      have o6 : ¬ l[i].toList = ([225, 154, 128] : List UInt8) := fun h => ho (.inr (.inr (.inr (.inr (.inr h)))))
      rw [laws_FnSentencesUsual.l0, if_pos (by omega), if_pos (by omega), if_pos (by omega), hrd, if_pos (by omega), if_neg o1, if_neg o2, if_neg o3, if_neg o4, wr1 (by omega) (by omega)]
      by_cases p1 : (l[i].size : Int) = 3
      · rw [if_pos p1]
        by_cases p2 : Op.bytesLess l[i].toList ([226, 128, 128] : List UInt8) = true
        · rw [if_pos p2, if_neg o6]; exact hK k (by omega)
        · rw [if_neg p2]
          by_cases p3 : Op.bytesLess ([226, 129, 159] : List UInt8) l[i].toList = true
          · rw [if_pos p3, if_neg o6]; exact hK k (by omega)
          · exact absurd (.inr (.inr (.inr (.inr (.inl ⟨p1, p2, p3⟩))))) ho
      · rw [if_neg p1, if_neg o6]; exact hK k (by omega)
theorem usual_canary : toks (call usual) 6 0 (⟨#[97, 227, 128, 130, 98]⟩ : ByteArray) = [(⟨#[97, 227, 128, 130]⟩ : ByteArray), (⟨#[98]⟩ : ByteArray)] := by decide +kernel
theorem FnSentencesUsual (x0 : ByteArray) (g0 : x0.size ≤ 9223372036854775807) : ∃ k, laws_FnSentencesUsual.f k x0 = some true := by
  by_cases c0 : (x0.size : Int) > 2147483647
  · exact ⟨0, by rw [laws_FnSentencesUsual.f, if_pos c0]⟩
  · have hc : impl_SentencesUsual.f (⟨#[97, 227, 128, 130, 98]⟩ : ByteArray) = some ([(⟨#[97, 227, 128, 130]⟩ : ByteArray), (⟨#[98]⟩ : ByteArray)], true) := by
      unfold impl_SentencesUsual.f
      rw [if_pos (by decide)]
      exact congrArg some (Prod.ext usual_canary rfl)
    obtain ⟨KS, hS⟩ := sameTexts_self [(⟨#[97, 227, 128, 130]⟩ : ByteArray), (⟨#[98]⟩ : ByteArray)] (by decide)
    dsimp only at hS
    have top : ∀ k, KS ≤ k → laws_FnSentencesUsual.j0 k x0 (!true) = some true → laws_FnSentencesUsual.f k x0 = some true := fun k hk h => by
      rw [laws_FnSentencesUsual.f, if_neg c0, hc]
      simp only [Option.bind_some]
      rw [if_pos trivial, hS k hk]
      exact h
    obtain ⟨c, ⟨K, hK⟩, hcl⟩ := clean_ev 400 [x0] ⟨by simp, fun x hx => by simp at hx; subst hx; omega⟩
    dsimp only at hK
    have fin : ∀ k, max KS K ≤ k → laws_FnSentencesUsual.j1 (k + 1) x0 true = some true := fun k hk => by rw [laws_FnSentencesUsual.j1, if_pos rfl]
    cases c with
    | false =>
      refine ⟨max KS K + 2, top _ (by omega) ?_⟩
      rw [laws_FnSentencesUsual.j0, if_neg (by decide), hK _ (by omega)]
      simp only [Option.bind_some]
      rw [if_neg (by decide)]
      exact fin _ (by omega)
    | true =>
      obtain ⟨⟨z0, _⟩, l0, K0, h0⟩ := hcl rfl x0 (by simp)
      dsimp only at h0
      have ck := signs_chk (h0 K0 (Nat.le_refl _))
      have hn := chk_len _ _ ck
      obtain ⟨e0, hp⟩ := chk_cat _ _ ck
      obtain ⟨KL, hL⟩ := usual_l0 x0 l0 hp (by omega) (fun hns => by
        have hsees : Sees usual l0 := fun c hc => ⟨hp c hc, by unfold space; rw [hns c hc, Bool.and_false], by
          have h1 := hns c hc
          by_cases e : ((dec c).1 : Int) = 10
          · rw [e] at h1; exact absurd h1 (by decide)
          · rw [beq_eq_false_iff_ne.2 e, Bool.and_false]⟩
        have htk := toks_L (o := usual) (x0.size + 1) l0 0 (by omega) hsees (by omega)
        rw [← e0] at htk
        obtain ⟨hfl, hne⟩ := sentL_flat (dR usual) (fR usual) usual.max (x0.size + 1) l0 (by omega)
        obtain ⟨hl1, hl2⟩ := sentL_len (dR usual) (fR usual) usual.max (k := x0.size + 1) (l := l0) (by omega)
        obtain ⟨K1, h1⟩ := usual_l1 x0 (sentL (dR usual) (fR usual) usual.max (x0.size + 1) l0) (by rw [cat_flat, hfl, ← e0]) (by omega) (by omega) (fun m hm => catB_ne (hne m hm) fun c hc => hp c (sentL_mem _ _ _ (by omega) hm hc)) _ 0 (Nat.zero_add _)
        dsimp only at h1
        refine ⟨K1, fun k hk => ?_⟩
        dsimp only
        unfold impl_SentencesUsual.f
        rw [if_pos (by omega)]
        simp only [Option.bind_some]
        rw [htk]
        exact h1 k hk) _ 0 (Nat.zero_add _) (fun j hj g => by omega)
      dsimp only at hL
      refine ⟨max (max KS K) (max K0 KL) + 2, top _ (by omega) ?_⟩
      rw [laws_FnSentencesUsual.j0, if_neg (by decide), hK _ (by omega)]
      simp only [Option.bind_some]
      rw [if_pos trivial, laws_count.f, h0 _ (by omega)]
      simp only [Option.bind_some]
      by_cases g : (l0.length : Int) > 100
      · rw [decide_eq_true g]; exact fin _ (by omega)
      · rw [decide_eq_false g, laws_FnSentencesUsual.j1, if_neg (by decide), h0 _ (by omega)]
        simp only [Option.bind_some]
        exact hL _ (by omega)
end Go.Proofs.YtpjnebmcbeblkaaDoor.Pure
