/- The double array: CommonPrefixSearch, PrefixSearch. -/
import Derived.Test.YtddcjmdcpkmnjaaEPx
import Derived.Test.YtddcjmdcpkmnjaaETrA
set_option linter.unusedVariables false
namespace Go.Proofs.Ytddcjmdcpkmnjaa.Gn
/-- Two rows of their own above w. -/
structure Two (e : Nat) (w wr : World) (va vb : Value) (la lb : List Value) : Prop where
  a : ORow wr e va la
  b : ORow wr e vb lb
  chg : Chg [] w wr
  na : ∀ g, va.ownBlock = some g → w.heap.size ≤ g
  nb : ∀ g, vb.ownBlock = some g → w.heap.size ≤ g
  ne : ∀ g, va.ownBlock = some g → vb.ownBlock ≠ some g
theorem Two.start (e : Nat) (w : World) : Two e w w (.slice none 0 0) (.slice none 0 0) [] [] :=
  ⟨ORow.nil _ _, ORow.nil _ _, Chg.refl _ _, fun g h => (by cases h), fun g h => (by cases h), fun g h => (by cases h)⟩
theorem Two.symm {e : Nat} {w wr : World} {va vb : Value} {la lb : List Value} (h : Two e w wr va vb la lb) : Two e w wr vb va lb la :=
  ⟨h.b, h.a, h.chg, h.nb, h.na, fun g h1 h2 => h.ne g h2 h1⟩
theorem Two.drew {e : Nat} {w wr : World} {va vb : Value} {la lb : List Value} (h : Two e w wr va vb la lb) : Two e w wr.drew va vb la lb :=
  ⟨h.a.chg ((Chg.refl [] _).drew) (by simp), h.b.chg ((Chg.refl [] _).drew) (by simp), h.chg.drew, h.na, h.nb, h.ne⟩
theorem Two.app {e : Nat} {w wr w1 : World} {va vb va' : Value} {la lb la' : List Value} {o : Obj} (h : Two e w wr va vb la lb) (h1 : ORow w1 e va' la') (hc : Chg va.ownBlock.toList (wr.alloc o) w1) (ho : va'.ownBlock = va.ownBlock ∨ va'.ownBlock = some (wr.alloc o).heap.size) : Two e w w1 va' vb la' lb := by
  have hcw : Chg va.ownBlock.toList wr w1 := ((Chg.refl _ wr).alloc o).trans hc
  refine ⟨h1, h.b.chg hcw (fun g hg hm => ?_), h.chg.above hcw (fun g hg => .inr (h.na g (by simpa using hg))), fun g hg => ?_, h.nb, fun g hg hg2 => ?_⟩
  · exact h.ne g (by simpa using hm) hg
  · rcases ho with q | q
    · exact h.na g (by rw [← q]; exact hg)
    · rw [hg] at q
      injection q with q
      rw [size_alloc] at q
      have := h.chg.size
      omega
  · rcases ho with q | q
    · exact h.ne g (by rw [← q]; exact hg) hg2
    · rw [hg] at q
      injection q with q
      rw [size_alloc] at q
      have := (h.b.block hg2).1
      omega
end Go.Proofs.Ytddcjmdcpkmnjaa.Gn
namespace Go.Proofs.Ytddcjmdcpkmnjaa.Da
open Go.RowKit Go.Proofs.YtddcjmdcpkmnjaaW.PrintWords Go.Proofs.Ytddcjmdcpkmnjaa.Gn
theorem pfx_len (kw : List ByteArray) (ids : List Int) (s : ByteArray) (n : Nat) : (pfx kw ids s n).length ≤ n := by
  unfold pfx
  refine Nat.le_trans (List.length_filterMap_le _ _) ?_
  rw [List.length_range]
  exact Nat.le_refl _
/-- The cells of a double array. -/
def DaRow (w : World) (b m : Nat) (B C : Nat → Int) : Prop := w.heap[b]? = some (.cells (row m B C) 71 (0, 0))
theorem DaRow.lt {w : World} {b m : Nat} {B C : Nat → Int} (h : DaRow w b m B C) : b < w.heap.size := (Array.getElem?_eq_some_iff.1 h).1
theorem DaRow.chg {w w' : World} {b m : Nat} {B C : Nat → Int} (h : DaRow w b m B C) (hc : Chg [] w w') : DaRow w' b m B C := (hc.block b h.lt (by simp)).trans h
theorem DaRow.base {w : World} {b m : Nat} {B C : Nat → Int} (h : DaRow w b m B C) (p : Nat) (hp : p < m) : w.cell? ⟨b, p * 2, none⟩ = some (.int .i32 (B p)) := (At.base (Built.at h) p hp |> fun q => by
  unfold DaRow at h
  have : (row m B C)[p * 2]? = some (.int .i32 (B p)) := by
    rw [row_get, if_pos (by omega), if_pos (by omega), show p * 2 / 2 = p by omega]
  simp [World.cell?, h, this])
theorem DaRow.check {w : World} {b m : Nat} {B C : Nat → Int} (h : DaRow w b m B C) (p : Nat) (hp : p < m) : w.cell? ⟨b, p * 2 + 1, none⟩ = some (.int .i32 (C p)) := by
  unfold DaRow at h
  have : (row m B C)[p * 2 + 1]? = some (.int .i32 (C p)) := by
    rw [row_get, if_pos (by omega), if_neg (by omega), show (p * 2 + 1) / 2 = p by omega]
  simp [World.cell?, h, this]
def fsts (l : List (Int × Int)) : List Value := l.map fun x => .int .i64 x.1
def snds (l : List (Int × Int)) : List Value := l.map fun x => .int .i64 x.2
theorem fsts_app (l : List (Int × Int)) (x y : Int) : fsts (l ++ [(x, y)]) = fsts l ++ [.int .i64 x] := by simp [fsts]
theorem snds_app (l : List (Int × Int)) (x y : Int) : snds (l ++ [(x, y)]) = snds l ++ [.int .i64 y] := by simp [snds]
def CpPost (kw : List ByteArray) (ids : List Int) (s : ByteArray) (w : World) (e : Ending) (w' : World) : Prop :=
  ∃ va vb, e = .returned (.tuple #[va, vb]) ∧ Two 3 w w' va vb (fsts (pfx kw ids s s.size)) (snds (pfx kw ids s s.size))
set_option maxHeartbeats 2000000 in
set_option maxRecDepth 100000 in
theorem cps_calls (w : World) (b m : Nat) (B C : Nat → Int) (kw : List ByteArray) (ids : List Int) (s : ByteArray) (h : DaRow w b m B C) (hm : m ≤ 60000) (hT : TrieOk kw ids m B C) (hs : s.size ≤ 1000) (hnz : ∀ j, j < s.size → (s.get! j).toNat ≠ 0) :
    Calls Try.prog 31 #[.slice (some ⟨b, 0, none⟩) m m, .string s] w (CpPost kw ids s w) := by
  have HR := Aside0.mk h
  have HT := Aside0.mk hT
  have HNZ := Aside0.mk hnz
  clear h hT hnz
  go_enter Try.func31, Try.ntmps31
  go_wp2_with fail
  go_loopw [4, 5, 7, 9] (fun v4 v5 v7 v9 wr => ∃ j p : Nat, v9 = .int .i64 j ∧ v7 = .int .i64 p ∧ Aside0 (j ≤ s.size) ∧ Aside0 (On kw ids m B C s j p) ∧ Aside0 (Two 3 w wr v4 v5 (fsts (pfx kw ids s j)) (snds (pfx kw ids s j)))) (fun _ _ _ v9 _ => s.size - (intOf v9).toNat)
  case atStart => exact ⟨0, 0, rfl, rfl, ⟨Nat.zero_le _⟩, ⟨On.start HT.out s⟩, ⟨Two.start _ w⟩⟩
  case round =>
    obtain ⟨j, p, rfl, rfl, HJ, HO, H2⟩ := hrel
    have HA := Aside0.mk (HR.out.chg H2.out.chg)
    obtain ⟨A4, c4, e4, hl4, _⟩ := H2.out.a.slice
    obtain ⟨A5, c5, e5, hl5, _⟩ := H2.out.b.slice
    obtain ⟨n4, hn4⟩ : ∃ n4, n4 = (fsts (pfx kw ids s j)).length := ⟨_, rfl⟩
    obtain ⟨n5, hn5⟩ : ∃ n5, n5 = (snds (pfx kw ids s j)).length := ⟨_, rfl⟩
    have hpl := pfx_len kw ids s j
    have hb4 : n4 ≤ j := by rw [hn4]; unfold fsts; rw [List.length_map]; exact hpl
    have hb5 : n5 ≤ j := by rw [hn5]; unfold snds; rw [List.length_map]; exact hpl
    rw [← hn4] at e4 hl4
    rw [← hn5] at e5 hl5
    subst e4 e5
    have HN4 := Aside0.mk hn4
    have HN5 := Aside0.mk hn5
    clear hpl hn4 hn5
    by_cases hlt : j < s.size
    · have hp := HO.out.lt
      obtain ⟨base, c, e1, e2, e3, hcs, hc0, hc255, hR⟩ := HO.out.round HT.out hlt (HNZ.out j hlt)
      have d2 := HA.out.base p hp
      rw [e1] at d2
      have k1 : ((c:Int) == 0) = false := beq_eq_false_iff_ne.2 (by omega)
      have k2 : (c == 0) = false := beq_eq_false_iff_ne.2 (by omega)
      have r1 : decide ((0:Int) ≤ (p:Int)) = true := decide_eq_true (by omega)
      have r2 : decide ((p:Int) < (m:Int)) = true := decide_eq_true (by omega)
      have r3 : (p:Int) < (m:Int) := by omega
      have r4 : (0:Int) ≤ (p:Int) := by omega
      have r5 : (j:Int) < (s.size:Int) := by omega
      have r6 : (0:Int) ≤ (j:Int) := by omega
      clear e1
      cases hR with
      | far h e =>
        go_wp2_with fail
        refine still_tail 11 (by kernel_rfl) (by kernel_rfl) ?_
        intro w2 e2
        have H22 : Aside0 (Two 3 w w2 (.slice A4 n4 c4) (.slice A5 n5 c5) (fsts (pfx kw ids s s.size)) (snds (pfx kw ids s s.size))) := ⟨by rw [e2, e]; exact H2.out.drew⟩
        rw [show wr.cell? = w2.cell? by rw [e2]; rfl] at d2
        clear e2 e
        simp only [List.take_succ_cons, List.take_zero, List.drop_succ_cons, List.drop_zero]
        repeat still_step
        refine wpStill_nil ?_
        go_wp2_with fail
        go_ret2
        exact ⟨_, _, rfl, H22.out⟩
      | other h cv h1 h2 h3 e =>
        have d3 := HA.out.check (base + c) h
        rw [h1] at d3
        have n1 : (cv != (p:Int)) = true := bne_iff_ne.2 h2
        have n2 : (cv == (p:Int)) = false := beq_eq_false_iff_ne.2 h2
        have hw : wrap64 cv = cv := by unfold wrap64; omega
        have HE := Aside0.mk e
        clear h1 h2 h3 e
        go_wp2_with fail
        refine still_tail 11 (by kernel_rfl) (by kernel_rfl) ?_
        intro w2 e2
        have H22 : Aside0 (Two 3 w w2 (.slice A4 n4 c4) (.slice A5 n5 c5) (fsts (pfx kw ids s j)) (snds (pfx kw ids s j))) := ⟨by rw [e2]; exact H2.out.drew⟩
        rw [show wr.cell? = w2.cell? by rw [e2]; rfl] at d2 d3
        clear e2
        simp only [List.take_succ_cons, List.take_zero, List.drop_succ_cons, List.drop_zero]
        repeat still_step
        refine wpStill_nil ?_
        go_wp2_with fail
        go_ret2
        exact ⟨_, _, rfl, by rw [HE.out]; exact H22.out⟩
      | hit h h1 on b2 h2 h3 h4 y h5 h6 e =>
        have d3 := HA.out.check (base + c) h
        rw [h1] at d3
        have d4 := HA.out.base (base + c) h
        rw [h2] at d4
        have HON := Aside0.mk on
        have HE := Aside0.mk e
        have d5 := HA.out.check b2 h3
        rw [h4, Int.natCast_add] at d5
        have d6 := HA.out.base b2 h3
        rw [h5] at d6
        obtain ⟨y0, y1⟩ := h6
        have k3 : decide (-y ≤ 0) = true := decide_eq_true (by omega)
        have k4 : -y ≤ 0 := by omega
        clear h1 h2 h4 h5 on e
        go_wp2_with fail
        refine still_tail 11 (by kernel_rfl) (by kernel_rfl) ?_
        intro w2 e2
        have H22 : Aside0 (Two 3 w w2 (.slice A4 n4 c4) (.slice A5 n5 c5) (fsts (pfx kw ids s j)) (snds (pfx kw ids s j))) := ⟨by rw [e2]; exact H2.out.drew⟩
        rw [show wr.cell? = w2.cell? by rw [e2]; rfl] at d2 d3 d4 d5 d6
        clear e2
        simp only [List.take_succ_cons, List.take_zero, List.drop_succ_cons, List.drop_zero]
        repeat still_step
        refine wpStill_nil ?_
        go_wp2_with (first | (at_builtin; refine wpList_append1 rfl _ _ 23 rfl 3 (.int .i64 0) 8 Try.underlying23 info3 rfl (.slice A4 n4 c4) (fsts (pfx kw ids s j)) rfl (H22.out.a.chg ((Chg.refl [] w2).alloc _) (fun _ _ => by simp)) w2.heap.size (.int .i64 y) rfl (cell_box w2 _ _) rfl ?s1 ?s2 ?_; (case s1 => (rw [← HN4.out]; omega)); (case s2 => (rw [← HN4.out]; unfold maxLen; omega)); intro v4 w3 hr3 hc3 ho3; have H23 := Aside0.mk (H22.out.app hr3 hc3 ho3); clear hr3 hc3 ho3 H22) | (at_builtin; refine wpList_append1 rfl _ _ 23 rfl 3 (.int .i64 0) 8 Try.underlying23 info3 rfl (.slice A5 n5 c5) (snds (pfx kw ids s j)) rfl (H23.out.b.chg ((Chg.refl [] w3).alloc _) (fun _ _ => by simp)) w3.heap.size (.int .i64 ((j:Int) + 1)) rfl (cell_box w3 _ _) rfl ?s1 ?s2 ?_; (case s1 => (rw [← HN5.out]; omega)); (case s2 => (rw [← HN5.out]; unfold maxLen; omega)); intro v5 w4 hr4 hc4 ho4; have H24 := Aside0.mk (H23.out.symm.app hr4 hc4 ho4).symm; clear hr4 hc4 ho4 H23))
        go_roundw
        case rel => exact ⟨j + 1, base + c, by go_num, by go_num, ⟨by omega⟩, HON, ⟨by rw [HE.out, fsts_app, snds_app]; exact H24.out⟩⟩
        case measure => simp [intOf]; omega
      | end1 h h1 on b2 h2 h3 h4 e =>
        have d3 := HA.out.check (base + c) h
        rw [h1] at d3
        have d4 := HA.out.base (base + c) h
        rw [h2] at d4
        have HON := Aside0.mk on
        have HE := Aside0.mk e
        clear h1 h2 on e
        go_wp2_with fail
        refine still_tail 11 (by kernel_rfl) (by kernel_rfl) ?_
        intro w2 e2
        have H22 : Aside0 (Two 3 w w2 (.slice A4 n4 c4) (.slice A5 n5 c5) (fsts (pfx kw ids s j)) (snds (pfx kw ids s j))) := ⟨by rw [e2]; exact H2.out.drew⟩
        rw [show wr.cell? = w2.cell? by rw [e2]; rfl] at d2 d3 d4
        clear e2
        simp only [List.take_succ_cons, List.take_zero, List.drop_succ_cons, List.drop_zero]
        repeat still_step
        refine wpStill_nil ?_
        go_wp2_with fail
        go_roundw
        case rel => exact ⟨j + 1, base + c, by go_num, by go_num, ⟨by omega⟩, HON, ⟨by rw [HE.out]; exact H22.out⟩⟩
        case measure => simp [intOf]; omega
      | end2 h h1 on b2 h2 h3 cv h4 h5 h6 e =>
        have d3 := HA.out.check (base + c) h
        rw [h1] at d3
        have d4 := HA.out.base (base + c) h
        rw [h2] at d4
        have HON := Aside0.mk on
        have HE := Aside0.mk e
        have d5 := HA.out.check b2 h3
        rw [h4] at d5
        rw [Int.natCast_add] at h5
        have n1 : (cv == (base:Int) + (c:Int)) = false := beq_eq_false_iff_ne.2 h5
        have hw : wrap64 cv = cv := by unfold wrap64; omega
        clear h1 h2 h4 h5 h6 on e
        go_wp2_with fail
        refine still_tail 11 (by kernel_rfl) (by kernel_rfl) ?_
        intro w2 e2
        have H22 : Aside0 (Two 3 w w2 (.slice A4 n4 c4) (.slice A5 n5 c5) (fsts (pfx kw ids s j)) (snds (pfx kw ids s j))) := ⟨by rw [e2]; exact H2.out.drew⟩
        rw [show wr.cell? = w2.cell? by rw [e2]; rfl] at d2 d3 d4 d5
        clear e2
        simp only [List.take_succ_cons, List.take_zero, List.drop_succ_cons, List.drop_zero]
        repeat still_step
        refine wpStill_nil ?_
        go_wp2_with fail
        go_roundw
        case rel => exact ⟨j + 1, base + c, by go_num, by go_num, ⟨by omega⟩, HON, ⟨by rw [HE.out]; exact H22.out⟩⟩
        case measure => simp [intOf]; omega
    · have hj : j = s.size := by have := HJ.out; omega
      have H22 := H2.out
      rw [hj] at H22
      have H23 := Aside0.mk H22
      have k1 : decide (j < s.size) = false := decide_eq_false hlt
      have k2 : decide ((j:Int) < (s.size:Int)) = false := decide_eq_false (by omega)
      clear hj H22
      go_wp2_with fail
      go_ret2
      exact ⟨_, _, rfl, H23.out⟩
end Go.Proofs.Ytddcjmdcpkmnjaa.Da
