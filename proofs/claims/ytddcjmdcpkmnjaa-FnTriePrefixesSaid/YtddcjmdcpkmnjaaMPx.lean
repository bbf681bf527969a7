/- The double array, plain: one sign further along a text, and whether a word ends there. The double array: CommonPrefixSearch, PrefixSearch. impl.TriePrefixes. -/
import Derived.Test.YtddcjmdcpkmnjaaMBu
import Derived.Test.YtddcjmdcpkmnjaaETrA
set_option linter.unusedVariables false
namespace Go.Proofs.Ytddcjmdcpkmnjaa.Da
/-- The beginnings of s that are words, the first n signs looked at: numbers and lengths. -/
def pfx (kw : List ByteArray) (ids : List Int) (s : ByteArray) (n : Nat) : List (Int × Int) := (List.range n).filterMap fun t => if s.extract 0 (t + 1) ∈ kw then some (idOf kw ids (s.extract 0 (t + 1)), (t : Int) + 1) else none
theorem pfx_zero (kw : List ByteArray) (ids : List Int) (s : ByteArray) : pfx kw ids s 0 = [] := rfl
theorem pfx_hit {kw : List ByteArray} {ids : List Int} {s : ByteArray} {t : Nat} (h : s.extract 0 (t + 1) ∈ kw) : pfx kw ids s (t + 1) = pfx kw ids s t ++ [(idOf kw ids (s.extract 0 (t + 1)), (t : Int) + 1)] := by
  unfold pfx
  rw [List.range_succ, List.filterMap_append]
  simp [h]
theorem pfx_miss {kw : List ByteArray} {ids : List Int} {s : ByteArray} {t : Nat} (h : s.extract 0 (t + 1) ∉ kw) : pfx kw ids s (t + 1) = pfx kw ids s t := by
  unfold pfx
  rw [List.range_succ, List.filterMap_append]
  simp [h]
theorem pfx_stop {kw : List ByteArray} {ids : List Int} {s : ByteArray} {t : Nat} (h : ¬ ∃ u ∈ kw, pre s (t + 1) u) : ∀ n, t + n ≤ s.size → pfx kw ids s (t + n) = pfx kw ids s t := by
  intro n
  induction n with
  | zero => intro _; rfl
  | succ n ih =>
    intro hn
    rw [show t + (n + 1) = t + n + 1 by omega, pfx_miss, ih (by omega)]
    intro hm
    obtain ⟨h1, _⟩ := (pre_whole s (t + n + 1) (by omega) _).2 rfl
    exact h ⟨_, hm, h1.shorter (by omega)⟩
/-- What one round finds. -/
inductive Round (kw : List ByteArray) (ids : List Int) (m : Nat) (B C : Nat → Int) (s : ByteArray) (j p c base : Nat) : Prop where
  | far (h : m ≤ base + c) (e : pfx kw ids s s.size = pfx kw ids s j) : Round kw ids m B C s j p c base
  | other (h : base + c < m) (cv : Int) (h1 : C (base + c) = cv) (h2 : cv ≠ (p : Int)) (h3 : -60000 ≤ cv ∧ cv ≤ 60000) (e : pfx kw ids s s.size = pfx kw ids s j) : Round kw ids m B C s j p c base
  | hit (h : base + c < m) (h1 : C (base + c) = (p : Int)) (on : On kw ids m B C s (j + 1) (base + c)) (b2 : Nat) (h2 : B (base + c) = (b2 : Int)) (h3 : b2 < m) (h4 : C b2 = ((base + c : Nat) : Int)) (y : Int) (h5 : B b2 = -y) (h6 : 0 ≤ y ∧ y ≤ 1100000) (e : pfx kw ids s (j + 1) = pfx kw ids s j ++ [(y, (j : Int) + 1)]) : Round kw ids m B C s j p c base
  | end1 (h : base + c < m) (h1 : C (base + c) = (p : Int)) (on : On kw ids m B C s (j + 1) (base + c)) (b2 : Nat) (h2 : B (base + c) = (b2 : Int)) (h3 : m ≤ b2) (h4 : b2 < 60000) (e : pfx kw ids s (j + 1) = pfx kw ids s j) : Round kw ids m B C s j p c base
  | end2 (h : base + c < m) (h1 : C (base + c) = (p : Int)) (on : On kw ids m B C s (j + 1) (base + c)) (b2 : Nat) (h2 : B (base + c) = (b2 : Int)) (h3 : b2 < m) (cv : Int) (h4 : C b2 = cv) (h5 : cv ≠ ((base + c : Nat) : Int)) (h6 : -60000 ≤ cv ∧ cv ≤ 60000) (e : pfx kw ids s (j + 1) = pfx kw ids s j) : Round kw ids m B C s j p c base
theorem On.round {kw : List ByteArray} {ids : List Int} {m : Nat} {B C : Nat → Int} {s : ByteArray} {j p : Nat} (hT : TrieOk kw ids m B C) (h : On kw ids m B C s j p) (hj : j < s.size) (hz : (s.get! j).toNat ≠ 0) :
    ∃ base c : Nat, B p = (base : Int) ∧ 1 ≤ base ∧ base < 60000 ∧ (s[j]'hj).toNat = c ∧ 0 < c ∧ c < 256 ∧ Round kw ids m B C s j p c base := by
  obtain ⟨c, hc⟩ : ∃ c, c = (s.get! j).toNat := ⟨_, rfl⟩
  have hch : chAt s j = c := by unfold chAt; rw [if_pos hj, hc]
  obtain ⟨base, e1, e2, e3, e4, e5⟩ := h.step (by rw [hch, hc]; exact hz)
  rw [hch] at e4 e5
  have hcs : (s[j]'hj).toNat = c := by rw [hc]; show _ = (s.data[j]!).toNat; rw [getElem!_pos s.data j hj]; rfl
  have hc255 : c < 256 := by rw [← hcs]; exact UInt8.toNat_lt _
  refine ⟨base, c, e1, e2, e3, hcs, by omega, hc255, ?_⟩
  have hstop : (¬ ∃ u ∈ kw, pre s (j + 1) u) → pfx kw ids s s.size = pfx kw ids s j := fun g => by
    have := pfx_stop (ids := ids) g (s.size - j) (by omega)
    rwa [show j + (s.size - j) = s.size by omega] at this
  by_cases hu : ∃ u ∈ kw, pre s (j + 1) u
  · obtain ⟨g1, g2, g3⟩ := e4 hu
    obtain ⟨b2, f1, f2, f3, f4, f5⟩ := g3.term (by omega)
    by_cases hm : s.extract 0 (j + 1) ∈ kw
    · obtain ⟨k1, k2, k3, k4, k5⟩ := f4 hm
      exact .hit g1 g2 g3 b2 f1 k1 k2 _ k3 ⟨k4, k5⟩ (pfx_hit hm)
    · by_cases hb : b2 < m
      · exact .end2 g1 g2 g3 b2 f1 hb _ rfl (fun q => f5 hm ⟨hb, q⟩) (hT.cb _ hb) (pfx_miss hm)
      · exact .end1 g1 g2 g3 b2 f1 (by omega) f3 (pfx_miss hm)
  · have hno := e5 hu
    by_cases hb : base + c < m
    · exact .other hb _ rfl (fun q => hno ⟨hb, q⟩) (hT.cb _ hb) (hstop hu)
    · exact .far (by omega) (hstop hu)
end Go.Proofs.Ytddcjmdcpkmnjaa.Da
namespace Go.Proofs.Ytddcjmdcpkmnjaa.Gn
/-- Two rows of their own above w. -/
structure Two (e : Nat) (w wr : World) (va vb : Value) (la lb : List Value) : Prop where
  a : ORow wr e va la
  b : ORow wr e vb lb
  chg : Chg [] w wr
  na : ∀ g, va.ownBlock = some g → w.heap.size ≤ g
  nb : ∀ g, vb.ownBlock = some g → w.heap.size ≤ g
  ne : ∀ g, va.ownBlock = some g → vb.ownBlock ≠ some g
theorem Two.start (e : Nat) (w : World) : Two e w w (.slice none 0 0) (.slice none 0 0) [] [] :=
  ⟨ORow.nil _ _, ORow.nil _ _, Chg.refl _ _, fun g h => (by cases h), fun g h => (by cases h), fun g h => (by cases h)⟩
theorem Two.symm {e : Nat} {w wr : World} {va vb : Value} {la lb : List Value} (h : Two e w wr va vb la lb) : Two e w wr vb va lb la :=
  ⟨h.b, h.a, h.chg, h.nb, h.na, fun g h1 h2 => h.ne g h2 h1⟩
theorem Two.drew {e : Nat} {w wr : World} {va vb : Value} {la lb : List Value} (h : Two e w wr va vb la lb) : Two e w wr.drew va vb la lb :=
  ⟨h.a.chg ((Chg.refl [] _).drew) (by simp), h.b.chg ((Chg.refl [] _).drew) (by simp), h.chg.drew, h.na, h.nb, h.ne⟩
theorem Two.app {e : Nat} {w wr w1 : World} {va vb va' : Value} {la lb la' : List Value} {o : Obj} (h : Two e w wr va vb la lb) (h1 : ORow w1 e va' la') (hc : Chg va.ownBlock.toList (wr.alloc o) w1) (ho : va'.ownBlock = va.ownBlock ∨ va'.ownBlock = some (wr.alloc o).heap.size) : Two e w w1 va' vb la' lb := by
  have hcw : Chg va.ownBlock.toList wr w1 := ((Chg.refl _ wr).alloc o).trans hc
  refine ⟨h1, h.b.chg hcw (fun g hg hm => ?_), h.chg.above hcw (fun g hg => .inr (h.na g (by simpa using hg))), fun g hg => ?_, h.nb, fun g hg hg2 => ?_⟩
  · exact h.ne g (by simpa using hm) hg
  · rcases ho with q | q
    · exact h.na g (by rw [← q]; exact hg)
    · rw [hg] at q
      injection q with q
      rw [size_alloc] at q
      have := h.chg.size
      omega
  · rcases ho with q | q
    · exact h.ne g (by rw [← q]; exact hg) hg2
    · rw [hg] at q
      injection q with q
      rw [size_alloc] at q
      have := (h.b.block hg2).1
      omega
end Go.Proofs.Ytddcjmdcpkmnjaa.Gn
namespace Go.Proofs.Ytddcjmdcpkmnjaa.Da
open Go.RowKit Go.Proofs.YtddcjmdcpkmnjaaW.PrintWords Go.Proofs.Ytddcjmdcpkmnjaa.Gn
theorem pfx_len (kw : List ByteArray) (ids : List Int) (s : ByteArray) (n : Nat) : (pfx kw ids s n).length ≤ n := by
  unfold pfx
  refine Nat.le_trans (List.length_filterMap_le _ _) ?_
  rw [List.length_range]
  exact Nat.le_refl _
/-- The cells of a double array. -/
def DaRow (w : World) (b m : Nat) (B C : Nat → Int) : Prop := w.heap[b]? = some (.cells (row m B C) 71 (0, 0))
theorem DaRow.lt {w : World} {b m : Nat} {B C : Nat → Int} (h : DaRow w b m B C) : b < w.heap.size := (Array.getElem?_eq_some_iff.1 h).1
theorem DaRow.chg {w w' : World} {b m : Nat} {B C : Nat → Int} (h : DaRow w b m B C) (hc : Chg [] w w') : DaRow w' b m B C := (hc.block b h.lt (by simp)).trans h
theorem DaRow.base {w : World} {b m : Nat} {B C : Nat → Int} (h : DaRow w b m B C) (p : Nat) (hp : p < m) : w.cell? ⟨b, p * 2, none⟩ = some (.int .i32 (B p)) := (At.base (Built.at h) p hp |> fun q => by
  unfold DaRow at h
  have : (row m B C)[p * 2]? = some (.int .i32 (B p)) := by
    rw [row_get, if_pos (by omega), if_pos (by omega), show p * 2 / 2 = p by omega]
  simp [World.cell?, h, this])
theorem DaRow.check {w : World} {b m : Nat} {B C : Nat → Int} (h : DaRow w b m B C) (p : Nat) (hp : p < m) : w.cell? ⟨b, p * 2 + 1, none⟩ = some (.int .i32 (C p)) := by
  unfold DaRow at h
  have : (row m B C)[p * 2 + 1]? = some (.int .i32 (C p)) := by
    rw [row_get, if_pos (by omega), if_neg (by omega), show (p * 2 + 1) / 2 = p by omega]
  simp [World.cell?, h, this]
def fsts (l : List (Int × Int)) : List Value := l.map fun x => .int .i64 x.1
def snds (l : List (Int × Int)) : List Value := l.map fun x => .int .i64 x.2
theorem fsts_app (l : List (Int × Int)) (x y : Int) : fsts (l ++ [(x, y)]) = fsts l ++ [.int .i64 x] := by simp [fsts]
theorem snds_app (l : List (Int × Int)) (x y : Int) : snds (l ++ [(x, y)]) = snds l ++ [.int .i64 y] := by simp [snds]
def CpPost (kw : List ByteArray) (ids : List Int) (s : ByteArray) (w : World) (e : Ending) (w' : World) : Prop :=
  ∃ va vb, e = .returned (.tuple #[va, vb]) ∧ Two 3 w w' va vb (fsts (pfx kw ids s s.size)) (snds (pfx kw ids s s.size))
set_option maxHeartbeats 2000000 in
set_option maxRecDepth 100000 in
theorem cps_calls (w : World) (b m : Nat) (B C : Nat → Int) (kw : List ByteArray) (ids : List Int) (s : ByteArray) (h : DaRow w b m B C) (hm : m ≤ 60000) (hT : TrieOk kw ids m B C) (hs : s.size ≤ 1000) (hnz : ∀ j, j < s.size → (s.get! j).toNat ≠ 0) :
    Calls Try.prog 31 #[.slice (some ⟨b, 0, none⟩) m m, .string s] w (CpPost kw ids s w) := by
  have HR := Aside0.mk h
  have HT := Aside0.mk hT
  have HNZ := Aside0.mk hnz
  clear h hT hnz
  go_enter Try.func31, Try.ntmps31
  go_wp2_with fail
  go_loopw [4, 5, 7, 9] (fun v4 v5 v7 v9 wr => ∃ j p : Nat, v9 = .int .i64 j ∧ v7 = .int .i64 p ∧ Aside0 (j ≤ s.size) ∧ Aside0 (On kw ids m B C s j p) ∧ Aside0 (Two 3 w wr v4 v5 (fsts (pfx kw ids s j)) (snds (pfx kw ids s j)))) (fun _ _ _ v9 _ => s.size - (intOf v9).toNat)
  case atStart => exact ⟨0, 0, rfl, rfl, ⟨Nat.zero_le _⟩, ⟨On.start HT.out s⟩, ⟨Two.start _ w⟩⟩
  case round =>
    obtain ⟨j, p, rfl, rfl, HJ, HO, H2⟩ := hrel
    have HA := Aside0.mk (HR.out.chg H2.out.chg)
    obtain ⟨A4, c4, e4, hl4, _⟩ := H2.out.a.slice
    obtain ⟨A5, c5, e5, hl5, _⟩ := H2.out.b.slice
    obtain ⟨n4, hn4⟩ : ∃ n4, n4 = (fsts (pfx kw ids s j)).length := ⟨_, rfl⟩
    obtain ⟨n5, hn5⟩ : ∃ n5, n5 = (snds (pfx kw ids s j)).length := ⟨_, rfl⟩
    have hpl := pfx_len kw ids s j
    have hb4 : n4 ≤ j := by rw [hn4]; unfold fsts; rw [List.length_map]; exact hpl
    have hb5 : n5 ≤ j := by rw [hn5]; unfold snds; rw [List.length_map]; exact hpl
    rw [← hn4] at e4 hl4
    rw [← hn5] at e5 hl5
    subst e4 e5
    have HN4 := Aside0.mk hn4
    have HN5 := Aside0.mk hn5
    clear hpl hn4 hn5
    by_cases hlt : j < s.size
    · have hp := HO.out.lt
      obtain ⟨base, c, e1, e2, e3, hcs, hc0, hc255, hR⟩ := HO.out.round HT.out hlt (HNZ.out j hlt)
      have d2 := HA.out.base p hp
      rw [e1] at d2
      have k1 : ((c:Int) == 0) = false := beq_eq_false_iff_ne.2 (by omega)
      have k2 : (c == 0) = false := beq_eq_false_iff_ne.2 (by omega)
      have r1 : decide ((0:Int) ≤ (p:Int)) = true := decide_eq_true (by omega)
      have r2 : decide ((p:Int) < (m:Int)) = true := decide_eq_true (by omega)
      have r3 : (p:Int) < (m:Int) := by omega
      have r4 : (0:Int) ≤ (p:Int) := by omega
      have r5 : (j:Int) < (s.size:Int) := by omega
      have r6 : (0:Int) ≤ (j:Int) := by omega
      clear e1
      cases hR with
      | far h e =>
        go_wp2_with fail
        refine still_tail 11 (by kernel_rfl) (by kernel_rfl) ?_
        intro w2 e2
        have H22 : Aside0 (Two 3 w w2 (.slice A4 n4 c4) (.slice A5 n5 c5) (fsts (pfx kw ids s s.size)) (snds (pfx kw ids s s.size))) := ⟨by rw [e2, e]; exact H2.out.drew⟩
        rw [show wr.cell? = w2.cell? by rw [e2]; rfl] at d2
        clear e2 e
        simp only [List.take_succ_cons, List.take_zero, List.drop_succ_cons, List.drop_zero]
        repeat still_step
        refine wpStill_nil ?_
        go_wp2_with fail
        go_ret2
        exact ⟨_, _, rfl, H22.out⟩
      | other h cv h1 h2 h3 e =>
        have d3 := HA.out.check (base + c) h
        rw [h1] at d3
        have n1 : (cv != (p:Int)) = true := bne_iff_ne.2 h2
        have n2 : (cv == (p:Int)) = false := beq_eq_false_iff_ne.2 h2
        have hw : wrap64 cv = cv := by unfold wrap64; omega
        have HE := Aside0.mk e
        clear h1 h2 h3 e
        go_wp2_with fail
        refine still_tail 11 (by kernel_rfl) (by kernel_rfl) ?_
        intro w2 e2
        have H22 : Aside0 (Two 3 w w2 (.slice A4 n4 c4) (.slice A5 n5 c5) (fsts (pfx kw ids s j)) (snds (pfx kw ids s j))) := ⟨by rw [e2]; exact H2.out.drew⟩
        rw [show wr.cell? = w2.cell? by rw [e2]; rfl] at d2 d3
        clear e2
        simp only [List.take_succ_cons, List.take_zero, List.drop_succ_cons, List.drop_zero]
        repeat still_step
        refine wpStill_nil ?_
        go_wp2_with fail
        go_ret2
        exact ⟨_, _, rfl, by rw [HE.out]; exact H22.out⟩
      | hit h h1 on b2 h2 h3 h4 y h5 h6 e =>
        have d3 := HA.out.check (base + c) h
        rw [h1] at d3
        have d4 := HA.out.base (base + c) h
        rw [h2] at d4
        have HON := Aside0.mk on
        have HE := Aside0.mk e
        have d5 := HA.out.check b2 h3
        rw [h4, Int.natCast_add] at d5
        have d6 := HA.out.base b2 h3
        rw [h5] at d6
        obtain ⟨y0, y1⟩ := h6
        have k3 : decide (-y ≤ 0) = true := decide_eq_true (by omega)
        have k4 : -y ≤ 0 := by omega
        clear h1 h2 h4 h5 on e
        go_wp2_with fail
        refine still_tail 11 (by kernel_rfl) (by kernel_rfl) ?_
        intro w2 e2
        have H22 : Aside0 (Two 3 w w2 (.slice A4 n4 c4) (.slice A5 n5 c5) (fsts (pfx kw ids s j)) (snds (pfx kw ids s j))) := ⟨by rw [e2]; exact H2.out.drew⟩
        rw [show wr.cell? = w2.cell? by rw [e2]; rfl] at d2 d3 d4 d5 d6
        clear e2
        simp only [List.take_succ_cons, List.take_zero, List.drop_succ_cons, List.drop_zero]
        repeat still_step
        refine wpStill_nil ?_
        go_wp2_with (first | (at_builtin; refine wpList_append1 rfl _ _ 23 rfl 3 (.int .i64 0) 8 Try.underlying23 info3 rfl (.slice A4 n4 c4) (fsts (pfx kw ids s j)) rfl (H22.out.a.chg ((Chg.refl [] w2).alloc _) (fun _ _ => by simp)) w2.heap.size (.int .i64 y) rfl (cell_box w2 _ _) rfl ?s1 ?s2 ?_; (case s1 => (rw [← HN4.out]; omega)); (case s2 => (rw [← HN4.out]; unfold maxLen; omega)); intro v4 w3 hr3 hc3 ho3; have H23 := Aside0.mk (H22.out.app hr3 hc3 ho3); clear hr3 hc3 ho3 H22) | (at_builtin; refine wpList_append1 rfl _ _ 23 rfl 3 (.int .i64 0) 8 Try.underlying23 info3 rfl (.slice A5 n5 c5) (snds (pfx kw ids s j)) rfl (H23.out.b.chg ((Chg.refl [] w3).alloc _) (fun _ _ => by simp)) w3.heap.size (.int .i64 ((j:Int) + 1)) rfl (cell_box w3 _ _) rfl ?s1 ?s2 ?_; (case s1 => (rw [← HN5.out]; omega)); (case s2 => (rw [← HN5.out]; unfold maxLen; omega)); intro v5 w4 hr4 hc4 ho4; have H24 := Aside0.mk (H23.out.symm.app hr4 hc4 ho4).symm; clear hr4 hc4 ho4 H23))
        go_roundw
        case rel => exact ⟨j + 1, base + c, by go_num, by go_num, ⟨by omega⟩, HON, ⟨by rw [HE.out, fsts_app, snds_app]; exact H24.out⟩⟩
        case measure => simp [intOf]; omega
      | end1 h h1 on b2 h2 h3 h4 e =>
        have d3 := HA.out.check (base + c) h
        rw [h1] at d3
        have d4 := HA.out.base (base + c) h
        rw [h2] at d4
        have HON := Aside0.mk on
        have HE := Aside0.mk e
        clear h1 h2 on e
        go_wp2_with fail
        refine still_tail 11 (by kernel_rfl) (by kernel_rfl) ?_
        intro w2 e2
        have H22 : Aside0 (Two 3 w w2 (.slice A4 n4 c4) (.slice A5 n5 c5) (fsts (pfx kw ids s j)) (snds (pfx kw ids s j))) := ⟨by rw [e2]; exact H2.out.drew⟩
        rw [show wr.cell? = w2.cell? by rw [e2]; rfl] at d2 d3 d4
        clear e2
        simp only [List.take_succ_cons, List.take_zero, List.drop_succ_cons, List.drop_zero]
        repeat still_step
        refine wpStill_nil ?_
        go_wp2_with fail
        go_roundw
        case rel => exact ⟨j + 1, base + c, by go_num, by go_num, ⟨by omega⟩, HON, ⟨by rw [HE.out]; exact H22.out⟩⟩
        case measure => simp [intOf]; omega
      | end2 h h1 on b2 h2 h3 cv h4 h5 h6 e =>
        have d3 := HA.out.check (base + c) h
        rw [h1] at d3
        have d4 := HA.out.base (base + c) h
        rw [h2] at d4
        have HON := Aside0.mk on
        have HE := Aside0.mk e
        have d5 := HA.out.check b2 h3
        rw [h4] at d5
        rw [Int.natCast_add] at h5
        have n1 : (cv == (base:Int) + (c:Int)) = false := beq_eq_false_iff_ne.2 h5
        have hw : wrap64 cv = cv := by unfold wrap64; omega
        clear h1 h2 h4 h5 h6 on e
        go_wp2_with fail
        refine still_tail 11 (by kernel_rfl) (by kernel_rfl) ?_
        intro w2 e2
        have H22 : Aside0 (Two 3 w w2 (.slice A4 n4 c4) (.slice A5 n5 c5) (fsts (pfx kw ids s j)) (snds (pfx kw ids s j))) := ⟨by rw [e2]; exact H2.out.drew⟩
        rw [show wr.cell? = w2.cell? by rw [e2]; rfl] at d2 d3 d4 d5
        clear e2
        simp only [List.take_succ_cons, List.take_zero, List.drop_succ_cons, List.drop_zero]
        repeat still_step
        refine wpStill_nil ?_
        go_wp2_with fail
        go_roundw
        case rel => exact ⟨j + 1, base + c, by go_num, by go_num, ⟨by omega⟩, HON, ⟨by rw [HE.out]; exact H22.out⟩⟩
        case measure => simp [intOf]; omega
    · have hj : j = s.size := by have := HJ.out; omega
      have H22 := H2.out
      rw [hj] at H22
      have H23 := Aside0.mk H22
      have k1 : decide (j < s.size) = false := decide_eq_false hlt
      have k2 : decide ((j:Int) < (s.size:Int)) = false := decide_eq_false (by omega)
      clear hj H22
      go_wp2_with fail
      go_ret2
      exact ⟨_, _, rfl, H23.out⟩
end Go.Proofs.Ytddcjmdcpkmnjaa.Da
namespace Go.Proofs.Ytddcjmdcpkmnjaa.Gn
theorem Two.lift {e : Nat} {w w2 w3 w6 : World} {va vb : Value} {la lb : List Value} {S : List Nat} (h : Two e w2 w3 va vb la lb) (hc : Chg [] w w2) (hS : ∀ g ∈ S, g < w2.heap.size) (h6 : Chg S w3 w6) (hw : Chg [] w w6) : Two e w w6 va vb la lb :=
  ⟨h.a.chg h6 (fun g hg hm => by have := h.na g hg; have := hS g hm; omega), h.b.chg h6 (fun g hg hm => by have := h.nb g hg; have := hS g hm; omega), hw, fun g hg => Nat.le_trans hc.size (h.na g hg), fun g hg => Nat.le_trans hc.size (h.nb g hg), h.ne⟩
end Go.Proofs.Ytddcjmdcpkmnjaa.Gn
namespace Go.Proofs.Ytddcjmdcpkmnjaa.Da
open Go.RowKit Go.Proofs.YtddcjmdcpkmnjaaW.PrintWords Go.Proofs.Ytddcjmdcpkmnjaa.Gn
theorem triePrefixes_idle (p q r : Value) (w : World) :
    CallsD Try.prog 30 #[p, q, r] .returning w fun e u' w' => e = .returned (.tuple #[]) ∧ u' = .returning ∧ w' = w := by
  refine callsD_of_wpS Try.func30 rfl fun c₀ cs hu => ?_
  apply wpS_seq
  apply wpS_region
  simp [wpOpsS, go_sem, recoverD, hu, Try.ntmps30, Exit.thenS]
  refine wpS_cond (t := false) (by simp [Act.eval, Array.replicate]) ?_
  simp only [Bool.false_eq_true, if_false]
  refine wpS_of_wp (wp_skip ?_)
  cases c₀
  simp_all [bodyPostS, results, Try.results30]
def PxPost (kw : List ByteArray) (ids : List Int) (s : ByteArray) (w : World) (e : Ending) (w' : World) : Prop :=
  ∃ va vb, e = .returned (.tuple #[va, vb, .bool true]) ∧ Two 3 w w' va vb (fsts (pfx kw ids s s.size)) (snds (pfx kw ids s s.size))
set_option maxHeartbeats 2000000 in
set_option maxRecDepth 100000 in
theorem triePrefixes_calls (w : World) (A0 A1 : Option Addr) (c0 c1 : Nat) (kw : List ByteArray) (ids : List Int) (s : ByteArray) (hk : Kd.C Kd.string w A0 kw.length kw) (hi : Kd.C (Kd.int .i64) w A1 ids.length ids) (hg : goodB kw (idsOr kw ids)) (hs : textB s) :
    Calls Try.prog 16 #[.slice A0 kw.length c0, .slice A1 ids.length c1, .string s] w (PxPost kw (idsOr kw ids) s w) := by
  have hmf : ∀ (fn : Fn) (first cap : Array Value) (w : World), (Instr.makeFunc fn first cap).run Try.prog w = .ok (.func fn first cap) w := fun _ _ _ _ => rfl
  obtain ⟨v1, v2, v3, hc, hsz⟩ := three_vars w (.slice none 0 0) (.slice none 0 0) (.bool false) 23 23 4
  have hb := built_calls _ A0 A1 c0 c1 kw ids (Kd.C_below hk (hc.toBelow (Nat.le_refl _) (by simp))) (Kd.C_below hi (hc.toBelow (Nat.le_refl _) (by simp))) hg.good
  have HB := Aside0.mk hb
  have V1 := Aside0.mk v1
  have V2 := Aside0.mk v2
  have V3 := Aside0.mk v3
  have HC := Aside0.mk hc
  have HSZ := Aside0.mk hsz
  have HS := Aside0.mk hs
  clear hb v1 v2 v3 hc hsz hk hi hg hs
  go_enter_defers Try.func16, Try.ntmps16
  go_wp2_with fail
  generalize ((w.alloc (.cells #[.slice none 0 0] 23)).alloc (.cells #[.slice none 0 0] 23)).alloc (.cells #[.bool false] 4) = w0 at *
  refine HB.out.mono ?_
  rintro e w2 ⟨v, rfl, b, m, B, C, rfl, hrow, hbw, hm, hT, hc2⟩
  have hz2 : w.heap.size + 3 ≤ w2.heap.size := by have := hc2.size; have := HSZ.out; omega
  have hf := cps_calls w2 b m B C kw (idsOr kw ids) s hrow hm hT HS.out.1 HS.out.2
  have HF := Aside0.mk hf
  have HC2 : Aside0 (Chg [] w w2) := ⟨HC.out.above hc2 (by simp)⟩
  have V1' := Aside0.mk (V1.out.chg hc2 (by simp))
  have V2' := Aside0.mk (V2.out.chg hc2 (by simp))
  have V3' := Aside0.mk (V3.out.chg hc2 (by simp))
  clear hrow hbw hm hT hc2 hf HB V1 V2 V3 HC
  go_wp2_with fail
  refine HF.out.mono ?_
  rintro e w3 ⟨va, vb, rfl, h2⟩
  obtain ⟨A4, c4, e4, _⟩ := h2.a.slice
  obtain ⟨A5, c5, e5, _⟩ := h2.b.slice
  obtain ⟨n4, HN4⟩ : ∃ n4, n4 = (fsts (pfx kw (idsOr kw ids) s s.size)).length := ⟨_, rfl⟩
  obtain ⟨n5, HN5⟩ : ∃ n5, n5 = (snds (pfx kw (idsOr kw ids) s s.size)).length := ⟨_, rfl⟩
  rw [← HN4] at e4
  rw [← HN5] at e5
  subst e4 e5
  clear HN4 HN5
  have hc3 := h2.chg
  have HC3 : Aside0 (Chg [] w w3) := ⟨HC2.out.above hc3 (by simp)⟩
  have V1 := Aside0.mk (V1'.out.chg hc3 (by simp))
  have V2 := Aside0.mk (V2'.out.chg hc3 (by simp))
  have V3 := Aside0.mk (V3'.out.chg hc3 (by simp))
  have H2 := Aside0.mk h2
  have HZ2 : Aside0 (w.heap.size + 3 ≤ w2.heap.size) := ⟨hz2⟩
  have d1 := V1.out.cell
  have d2 := V2.out.cell
  have f1 := V1.out.frozen 0 none
  have f2 := V2.out.frozen 0 none
  have hn : w.heap.size ≠ w.heap.size + 1 := by omega
  have hn' : w.heap.size + 1 ≠ w.heap.size := by omega
  clear hc3 h2 HF V1' V2' V3'
  go_wp2_with fail
  have V1x : Aside0 (Var ((w3.setCell ⟨w.heap.size, 0, none⟩ (.slice A4 n4 c4)).setCell ⟨w.heap.size + 1, 0, none⟩ (.slice A5 n5 c5)) w.heap.size 23 (.slice A4 n4 c4)) := ⟨(V1.out.set _).setOther (by show w.heap.size ≠ w.heap.size + 1; omega) _⟩
  have V2x : Aside0 (Var ((w3.setCell ⟨w.heap.size, 0, none⟩ (.slice A4 n4 c4)).setCell ⟨w.heap.size + 1, 0, none⟩ (.slice A5 n5 c5)) (w.heap.size + 1) 23 (.slice A5 n5 c5)) := ⟨(V2.out.setOther (by show w.heap.size + 1 ≠ w.heap.size; omega) _).set _⟩
  have V3x : Aside0 (Var ((w3.setCell ⟨w.heap.size, 0, none⟩ (.slice A4 n4 c4)).setCell ⟨w.heap.size + 1, 0, none⟩ (.slice A5 n5 c5)) (w.heap.size + 1 + 1) 4 (.bool false)) := ⟨(V3.out.setOther (by show w.heap.size + 1 + 1 ≠ w.heap.size; omega) _).setOther (by show w.heap.size + 1 + 1 ≠ w.heap.size + 1; omega) _⟩
  have HC4 : Aside0 (Chg [] w ((w3.setCell ⟨w.heap.size, 0, none⟩ (.slice A4 n4 c4)).setCell ⟨w.heap.size + 1, 0, none⟩ (.slice A5 n5 c5))) := ⟨(HC3.out.setCell (.inr (Nat.le_refl _)) _).setCell (.inr (by show w.heap.size ≤ w.heap.size + 1; omega)) _⟩
  have HK4 : Aside0 (Chg [w.heap.size, w.heap.size + 1, w.heap.size + 1 + 1] w3 ((w3.setCell ⟨w.heap.size, 0, none⟩ (.slice A4 n4 c4)).setCell ⟨w.heap.size + 1, 0, none⟩ (.slice A5 n5 c5))) := ⟨((Chg.refl _ w3).setCell (.inl (by simp)) _).setCell (.inl (by simp)) _⟩
  clear V1 V2 V3 HC3 d1 d2 f1 f2
  generalize (w3.setCell ⟨w.heap.size, 0, none⟩ (.slice A4 n4 c4)).setCell ⟨w.heap.size + 1, 0, none⟩ (.slice A5 n5 c5) = w4 at *
  have d1 := V1x.out.cell
  have d2 := V2x.out.cell
  have d3 := V3x.out.cell
  have f1 := V1x.out.frozen 0 none
  have f2 := V2x.out.frozen 0 none
  have f3 := V3x.out.frozen 0 none
  have hn2 : w.heap.size + 1 + 1 ≠ w.heap.size := by omega
  have hn3 : w.heap.size + 1 + 1 ≠ w.heap.size + 1 := by omega
  have hn4 : w.heap.size ≠ w.heap.size + 1 + 1 := by omega
  have hn5 : w.heap.size + 1 ≠ w.heap.size + 1 + 1 := by omega
  go_region_held3 (fun w' => w'.cell? ⟨w.heap.size, 0, none⟩ = some (.slice A4 n4 c4) ∧ w'.cell? ⟨w.heap.size + 1, 0, none⟩ = some (.slice A5 n5 c5)) (first | (refine ⟨?_, ?_⟩ <;> (refine keep_cell_d ?_ (by simp)) <;> repeat (first | assumption | refine keep_cell ?_ (by simp))) | go_keep | assumption) (fail)
  all_goals go_wp2_with fail
  all_goals refine leaves_cons (f := 30) (args := #[.pointer (some ⟨w.heap.size, 0, none⟩), .pointer (some ⟨w.heap.size + 1, 0, none⟩), .pointer (some ⟨w.heap.size + 1 + 1, 0, none⟩)]) (by simp) (by simp [go_sem]) ?_
  all_goals refine (triePrefixes_idle _ _ _ _).mono ?_
  all_goals rintro e u' w5 ⟨rfl, rfl, rfl⟩
  all_goals refine ⟨.tuple #[.slice A4 n4 c4, .slice A5 n5 c5, .bool true], ?_, .slice A4 n4 c4, .slice A5 n5 c5, rfl, H2.out.lift HC2.out (by have := HZ2.out; simp only [List.mem_cons, List.not_mem_nil, or_false]; rintro g (rfl | rfl | rfl) <;> omega) (((HK4.out.setCell (.inl (by simp)) _).setCell (.inl (by simp)) _).setCell (.inl (by simp)) _).drew ?_⟩
  · have e1 := keep_cell (a := ⟨w.heap.size + 1 + 1, 0, none⟩) (y := .bool true) (keep_cell (a := ⟨w.heap.size + 1, 0, none⟩) (y := .slice A5 n5 c5) (keep_cell (a := ⟨w.heap.size, 0, none⟩) (y := .slice A4 n4 c4) d1 (fun _ => rfl)) (by simp)) (by simp)
    have e2 := keep_cell (a := ⟨w.heap.size + 1 + 1, 0, none⟩) (y := .bool true) (keep_cell (a := ⟨w.heap.size + 1, 0, none⟩) (y := .slice A5 n5 c5) (keep_cell (a := ⟨w.heap.size, 0, none⟩) (y := .slice A4 n4 c4) d2 (by simp)) (fun _ => rfl)) (by simp)
    have e3 := World.cell?_setCell_same ((w4.setCell ⟨w.heap.size, 0, none⟩ (.slice A4 n4 c4)).setCell ⟨w.heap.size + 1, 0, none⟩ (.slice A5 n5 c5)) ⟨w.heap.size + 1 + 1, 0, none⟩ (.bool true) (keep_cell (a := ⟨w.heap.size + 1, 0, none⟩) (y := .slice A5 n5 c5) (keep_cell (a := ⟨w.heap.size, 0, none⟩) (y := .slice A4 n4 c4) d3 (by simp)) (by simp))
    generalize ((w4.setCell ⟨w.heap.size, 0, none⟩ (.slice A4 n4 c4)).setCell ⟨w.heap.size + 1, 0, none⟩ (.slice A5 n5 c5)).setCell ⟨w.heap.size + 1 + 1, 0, none⟩ (.bool true) = w6 at *
    simp [results, Try.results16, go_sem, e1, e2, e3]
  · exact (((HC4.out.setCell (.inr (Nat.le_refl _)) _).setCell (.inr (by show w.heap.size ≤ w.heap.size + 1; omega)) _).setCell (.inr (by show w.heap.size ≤ w.heap.size + 1 + 1; omega)) _).drew
end Go.Proofs.Ytddcjmdcpkmnjaa.Da
namespace Go.Proofs.Ytddcjmdcpkmnjaa.P
open Go.RowKit Go.Proofs.YtddcjmdcpkmnjaaW.PrintWords Go.Proofs.YtddcjmdcpkmnjaaW.PrintLast Go.Proofs.YtddcjmdcpkmnjaaW.PrintMore Go.Proofs.Ytddcjmdcpkmnjaa.Gn Go.Proofs.Ytddcjmdcpkmnjaa.Da
def impl_TriePrefixes.f (l0 : List ByteArray) (l1 : List Int) (s : ByteArray) : Option (List Int × List Int × Bool) :=
  if goodB l0 (idsOr l0 l1) ∧ textB s then some ((pfx l0 (idsOr l0 l1) s s.size).map (·.1), (pfx l0 (idsOr l0 l1) s s.size).map (·.2), true) else none
theorem impl_TriePrefixes.calls (A0 : Option Addr) (c0 : Nat) (l0 : List ByteArray) (A1 : Option Addr) (c1 : Nat) (l1 : List Int) (s : ByteArray) (r1 r2 : List Int) (r3 : Bool) (w : World) (hr0 : Kd.C Kd.string w A0 l0.length l0) (hc0 : l0.length ≤ c0) (hr1 : Kd.C (Kd.int .i64) w A1 l1.length l1) (hc1 : l1.length ≤ c1) (h : impl_TriePrefixes.f l0 l1 s = some (r1, r2, r3)) :
    Calls Try.prog 16 #[.slice A0 l0.length c0, .slice A1 l1.length c1, .string s] w fun e w' => ∃ v0_ v1_ : Value, e = .returned (.tuple #[v0_, v1_, .bool r3]) ∧ Kd.R (Kd.int .i64) 3 w' w.heap.size (fun k_ => some k_ ≠ (v1_ : Value).ownBlock) v0_ r1 ∧ Kd.R (Kd.int .i64) 3 w' w.heap.size (fun k_ => some k_ ≠ (v0_ : Value).ownBlock) v1_ r2 ∧ Below w.heap.size w w' := by
  unfold impl_TriePrefixes.f at h
  split at h
  case isFalse => cases h
  rename_i hok
  injection h with h
  simp only [Prod.mk.injEq] at h
  obtain ⟨rfl, rfl, rfl⟩ := h
  refine (triePrefixes_calls w A0 A1 c0 c1 l0 l1 s hr0 hr1 hok.1 hok.2).mono ?_
  rintro e w' ⟨va, vb, rfl, h2⟩
  refine ⟨va, vb, rfl, R_of_row (enc := Value.int .i64) ?_ (fun g hg => ⟨h2.na g hg, fun q => h2.ne g hg q.symm⟩), R_of_row (enc := Value.int .i64) ?_ (fun g hg => ⟨h2.nb g hg, fun q => h2.ne g q.symm hg⟩), h2.chg.toBelow (Nat.le_refl _) (by simp)⟩
  · have := h2.a; unfold fsts at this; rw [List.map_map]; exact this
  · have := h2.b; unfold snds at this; rw [List.map_map]; exact this
end Go.Proofs.Ytddcjmdcpkmnjaa.P
