/- Names by their numbers: what a map of names lists. -/
import Derived.Test.YtlhljldlbcgnoaaEPosA
import Derived.Maps.OwnSet
import Derived.Maps.RangeWalk
import Derived.Sort.KeysCollected
import Derived.WalkSpells
import Derived.Test.YtlhljldlbcgnoaaEPosP
import Derived.Test.YtlhljldlbcgnoaaXLaws
namespace Go.Proofs.Ytlhljldlbcgnoaa.P
open Go.RowKit Go.Proofs.YtlhljldlbcgnoaaW.PrintWords Go.Proofs.YtlhljldlbcgnoaaW.PrintLast Go.Proofs.YtlhljldlbcgnoaaW.PrintMore
open Go.Maps (Keyed string_keyed)
open Go.WideMaps Go.Proofs.Ytlhljldlbcgnoaa.X

theorem keyInv : ∀ key kl, keyOf Try.prog 9 key = some kl → ∃ x, key = Go.Proofs.encStr x := fun key kl hk => by
  obtain ⟨x, hx, _⟩ := Maps.keyOf_str Try.underlying9 hk
  exact ⟨x, hx⟩
theorem valInv : ∀ v (y : DataW Unit × List MemPlace), plainElem Try.prog 41 v = some y → ∃ c, v = Value.int .u16 c := fun v y hv => by
  obtain ⟨c, rfl, _⟩ := plainElem_int_inv Try.underlying41 hv
  exact ⟨c, rfl⟩

/-- What the list holds while the keys in 'left' are still to come. -/
def ListAt (names : List ByteArray) (left : Lit → Bool) (xs : List ByteArray) : Prop :=
  xs.length = names.length + 1 ∧ xs[0]? = some ⟨#[]⟩ ∧ ∀ (i : Nat) s, names[i]? = some s → left (keyL s) = false → xs[i + 1]? = some s
theorem ListAt.done {names : List ByteArray} {left : Lit → Bool} {xs : List ByteArray} (h : ListAt names left xs) (hl : ∀ kl, left kl = false) : xs = (⟨#[]⟩ : ByteArray) :: names := by
  obtain ⟨h1, h2, h3⟩ := h
  apply List.ext_getElem?
  intro i
  cases i with
  | zero => rw [h2]; rfl
  | succ i =>
    rw [List.getElem?_cons_succ]
    rcases Nat.lt_or_ge i names.length with hi | hi
    · rw [List.getElem?_eq_getElem hi]
      exact h3 i _ (List.getElem?_eq_getElem hi) (hl _)
    · rw [List.getElem?_eq_none hi, List.getElem?_eq_none (by omega)]
theorem ListAt.start {names : List ByteArray} {D : DataW Unit} (h : ∀ (i : Nat) s, names[i]? = some s → Maps.has D (keyL s) = true) : ListAt names (Maps.has D) (List.replicate (names.length + 1) ⟨#[]⟩) :=
  ⟨by simp, by simp, fun i s hi hl => by rw [h i s hi] at hl; cases hl⟩
theorem ListAt.step {names : List ByteArray} {left : Lit → Bool} {xs : List ByteArray} (h : ListAt names left xs) (hnd : names.Nodup) {i : Nat} {s : ByteArray} (hi : names[i]? = some s) :
    ListAt names (fun z => left z && !z.sameKey (keyL s)) (xs.set (i + 1) s) := by
  obtain ⟨h1, h2, h3⟩ := h
  refine ⟨by simp [h1], by rw [List.getElem?_set_ne (by omega)]; exact h2, fun j t hj hl => ?_⟩
  by_cases hts : t = s
  · subst hts
    have hji : j = i := by
      exact (List.getElem?_inj (List.getElem?_eq_some_iff.1 hj).1 hnd).1 (by rw [hj, hi])
    subst hji
    have hlt := (List.getElem?_eq_some_iff.1 hj).1
    rw [List.getElem?_set_self (by omega)]
  · have hji : i ≠ j := by
      rintro rfl
      rw [hi] at hj
      exact hts (Option.some.inj hj).symm
    rw [List.getElem?_set_ne (by omega)]
    refine h3 j t hj ?_
    have hne : (keyL t).sameKey (keyL s) = false := Maps.sameKey_ne (fun e => hts (keyL_inj e))
    simpa [hne] using hl

theorem cell_hcc {w : World} {g : Nat} {i : Int} {v : Value} (h : w.cell? (Addr.add ⟨g, 0, none⟩ i.toNat) = some v) : ∀ j u, [v][j]? = some u → w.cell? ⟨g, i.toNat * 1 + j, none⟩ = some u := by
  intro j u hu
  cases j with
  | zero =>
    have : v = u := by simpa using hu
    subst this
    rw [← h]
    unfold Addr.add
    by_cases h0 : i.toNat = 0
    · simp [h0]
    · simp [h0]
  | succ j => simp at hu

set_option maxHeartbeats 2000000 in
theorem pos_List (w : World) (B : Nat) (names : List ByteArray) (hm : PosMap w B names) (hnd : names.Nodup) (hl : names.length ≤ 60000) :
    Calls Try.prog 20 #[.map (some B)] w fun e w' => ∃ v : Value, e = .returned v ∧ Kd.R Kd.string 9 w' w.heap.size (fun _ => True) v ((⟨#[]⟩ : ByteArray) :: names) ∧ Below w.heap.size w w' := by
  obtain ⟨D, hown, hsz, hb, hno, hyes⟩ := hm
  have HSZ := Aside0.mk hsz
  have HOWN := Aside0.mk hown
  have HNO := Aside0.mk hno
  have HYES := Aside0.mk hyes
  have HND := Aside0.mk hnd
  have hB := hown.lt
  clear hno hyes hb hnd
  go_enter Try.func20, Try.ntmps20
  go_wp2_with (first | (at_len; refine wpList_len_own _ rfl _ 36 rfl 9 41 Try.underlying36 (plainElem Try.prog 41) B names.length D rfl hown ?_) | (at_make; refine Kd.R_make Kd.string (w0 := w) w.heap.size 9 rfl rfl 25 _ _ rfl ((names.length : Int) + 1) rfl rfl Try.underlying25 (.string ⟨#[]⟩) 16 info9 rfl (by decide) (by omega) ⟨#[]⟩ (ok := fun _ => True) (okp := fun _ => False) rfl (fun _ h => h.elim) trivial (by omega) ?hl (Below.refl _ _) (Nat.le_refl _) ?_; (case hl => omega); intro v0 w1 hr0 hb0 hg0 hx0; clear hx0; obtain ⟨g, cap, rfl, hgb, hglt, -⟩ := Kd.R_form hr0 (by simp); have HR0 := Aside0.mk hr0; have HB0 := Aside0.mk hb0; have HG0 := Aside0.mk hg0; have HLT := Aside0.mk hglt; clear hr0 hg0 hb0 hglt) | (at_range; refine wpList_range_own _ rfl _ 36 rfl 9 41 posLaw Try.underlying36 (plainElem Try.prog 41) B names.length D rfl (HOWN.out.kept HG0.out (by simp)) ?_; intro w2 hrg hg2 hs2; have HRG := Aside0.mk hrg; have HG2 := Aside0.mk hg2; clear hrg hg2 hs2))
  go_frame
  have elen : ((names.length : Int) + 1).toNat = names.length + 1 := by omega
  have hr1 := HR0.out
  rw [elen, List.length_replicate] at hr1
  have HR1 := Aside0.mk (Kd.R_grown hr1 HG2.out (by simp))
  have HB1 := Aside0.mk (HB0.out.grown HG2.out HG0.out.size (by simp))
  have HG3 := Aside0.mk (HG2.out.size)
  have hne : w1.heap.size ≠ g := by have := HLT.out; omega
  have hneB : B ≠ g := by omega
  have HNE := Aside0.mk hne
  have HNB := Aside0.mk hneB
  clear hr1 elen hne hneB hown hsz HR0
  go_loopw [5] (fun _ wr => ∃ left cnt xs, Aside0 (wr.ranges Try.prog 9 (plainElem Try.prog 41) B w1.heap.size names.length D left cnt) ∧ Aside0 (Kd.R Kd.string 9 wr w.heap.size (fun _ => True) (.slice (some ⟨g, 0, none⟩) (names.length + 1) cap) xs) ∧ Aside0 (ListAt names left xs) ∧ Aside0 (Below w.heap.size w wr)) (fun _ wr => wr.rangeLeft B w1.heap.size)
  case atStart => exact ⟨_, _, _, HRG, HR1, ⟨ListAt.start fun i s hi => (HYES.out i s hi).1⟩, HB1⟩
  case round =>
    obtain ⟨left, cnt, xs, HRr, HXr, HLr, HBr⟩ := hrel
    go_wp2_with (at_next; refine wpList_next_ranges _ rfl _ rfl 9 posLaw (plainElem Try.prog 41) Go.Proofs.encStr (Value.int .u16) keyInv valInv B w1.heap.size names.length D left cnt rfl HRr.out ?_ ?_)
    · intro hc0 hl0
      have HD := Aside0.mk (HLr.out.done hl0)
      clear hl0 hc0
      go_wp2
      go_ret
      exact ⟨_, rfl, by rw [← HD.out]; exact HXr.out, HBr.out⟩
    · intro x c kl yd yp w2' cnt2 hkey hlk hv hat hrg2 hlt hg2 hs2 hen
      clear hs2
      obtain ⟨x', ex, hkl, _⟩ := Maps.keyOf_str Try.underlying9 hkey
      obtain rfl : x = x' := encStr_inj ex
      obtain ⟨c', ec, ey, _⟩ := plainElem_int_inv Try.underlying41 hv
      obtain rfl : c = c' := by injection ec
      obtain ⟨s, hs⟩ : ∃ s : ByteArray, s = ⟨x.toArray⟩ := ⟨_, rfl⟩
      have hks : kl = keyL s := by rw [hkl, hs]; simp [keyL]
      have hmem : s ∈ names := by
        apply Classical.byContradiction
        intro hn
        have h1 := HNO.out s hn
        rw [Maps.has_true_of_atKey (D := D) (k := keyL s) (y := yd) (fun z => by rw [← hks]; exact hat z)] at h1
        cases h1
      obtain ⟨i, hi⟩ := List.getElem?_of_mem hmem
      have hc : c = (i : Int) + 1 := by
        have h1 := (HYES.out i s hi).2 yd
        rw [← hks, hat yd, (Prod.mk.inj ey).1] at h1
        injection h1 with h1
        injection h1
      have hil := (List.getElem?_eq_some_iff.1 hi).1
      have hstep := HLr.out.step HND.out hi
      rw [← hks] at hstep
      have HS2 := Aside0.mk hstep
      have HX2 := Aside0.mk (R_grown_obj HXr.out hg2 (ranges_obj HRr.out))
      have hB2 := HBr.out.grown hg2 (HBr.out.size) (by intro k hk; injection hk with hk; have := HB0.out.size; omega)
      have HB2 := Aside0.mk hB2
      have HRG2 := Aside0.mk hrg2
      have HLT2 := Aside0.mk hlt
      have enc : Go.Proofs.encStr x = Value.string s := by rw [hs]
      rw [enc] at hen
      rw [enc]
      obtain ⟨q, hq⟩ : ∃ q : Int, q = (i : Int) + 1 := ⟨_, rfl⟩
      have hqc : c = q := by rw [hc, hq]
      subst hqc
      have hqt : c.toNat = i + 1 := by omega
      rw [← hqt] at HS2
      have hxl := (Kd.R_reads' HX2.out).1
      have hcell := Kd.at_string (Kd.R_reads' HX2.out).2.2 c (by omega) (by omega)
      obtain ⟨ad, ead, hcell⟩ := hcell
      cases ead
      have HEN := Aside0.mk hen
      have hb1 : decide ((0 : Int) ≤ c) = true := decide_eq_true (by omega)
      have hb2 : decide (c < (names.length : Int) + 1) = true := decide_eq_true (by omega)
      have hb3 : 0 ≤ c := by omega
      have hb4 : c < (names.length : Int) + 1 := by omega
      have HC := Aside0.mk hcell
      clear hcell hen hB2 hrg2 hlt hstep hks hkl hs enc hkey hat hv ey hmem hi ex ec hlk hq hqt hc hxl hil
      go_wp2_with fail
      rw [HEN.out]
      clear HEN
      go_wp2_with ((with_reducible refine gate_ (.store 9 (.tmp 20) (.tmp 19)) rfl ?_); refine Kd.R_store Kd.string (w0 := w) w.heap.size rfl rfl 9 (.tmp 20) (.tmp 19) rfl 9 (g := g) (n := names.length + 1) (cap := cap) (o' := c.toNat) c 0 xs s (.string s) [.string s] [.string (rdOf ByteArray.empty xs c)] (fun _ => True) (fun _ => False) rfl ?s1 rfl rfl ?s2 ?s3 HX2.out hb3 ?s4 rfl ?s5 ?s6 rfl (fun _ h => h.elim) HB2.out ?_; (case s1 => simp [Kd.string, Kd.scalar]); (case s2 => kernel_rfl); (case s3 => intro q hq; rw [List.mem_singleton.1 hq]; rfl); (case s4 => omega); (case s5 => exact cell_hcc HC.out); (case s6 => exact Nat.le_refl _); intro w3 hr3 hb5 hg3)
      have HR3 := Aside0.mk hr3
      have HRG3 := Aside0.mk (HRG2.out.kept hg3 (by have := HNB.out; intro e; injection e with e; exact this e) (by have := HNE.out; intro e; injection e with e; exact this e))
      have HB5 := Aside0.mk hb5
      clear hr3 hb5 hg3 hg2
      go_roundw
      case rel => exact ⟨_, _, _, HRG3, HR3, HS2, HB5⟩
      case measure => rw [HRG3.out.left_eq, HRr.out.left_eq]; exact HLT2.out
end Go.Proofs.Ytlhljldlbcgnoaa.P
