/- impl.TrieLongest: PrefixSearch. -/
import Derived.Test.YtddcjmdcpkmnjaaMPx
set_option linter.unusedVariables false
namespace Go.Proofs.Ytddcjmdcpkmnjaa.Da
open Go.RowKit Go.Proofs.YtddcjmdcpkmnjaaW.PrintWords Go.Proofs.Ytddcjmdcpkmnjaa.Gn
def longest (l : List (Int × Int)) : Int × Bool := match l.getLast? with | none => (0, false) | some x => (x.1, true)
theorem longest_app (l : List (Int × Int)) (x : Int × Int) : longest (l ++ [x]) = (x.1, true) := by simp [longest]
def PsPost (kw : List ByteArray) (ids : List Int) (s : ByteArray) (w : World) (e : Ending) (w' : World) : Prop :=
  ∃ x ok, e = .returned (.tuple #[.int .i64 x, .bool ok]) ∧ (x, ok) = longest (pfx kw ids s s.size) ∧ Drw w w'
set_option maxHeartbeats 2000000 in
set_option maxRecDepth 100000 in
theorem ps_calls (w : World) (b m : Nat) (B C : Nat → Int) (kw : List ByteArray) (ids : List Int) (s : ByteArray) (h : DaRow w b m B C) (hm : m ≤ 60000) (hT : TrieOk kw ids m B C) (hs : s.size ≤ 1000) (hnz : ∀ j, j < s.size → (s.get! j).toNat ≠ 0) :
    Calls Try.prog 41 #[.slice (some ⟨b, 0, none⟩) m m, .string s] w (PsPost kw ids s w) := by
  have HR := Aside0.mk h
  have HT := Aside0.mk hT
  have HNZ := Aside0.mk hnz
  clear h hT hnz
  go_enter Try.func41, Try.ntmps41
  go_wp2_with fail
  go_loopw [4, 5, 7, 8] (fun v4 v5 v7 v8 wr => ∃ (j p : Nat) (x : Int) (ok : Bool), v8 = .int .i64 j ∧ v7 = .int .i64 p ∧ v4 = .int .i64 x ∧ v5 = .bool ok ∧ Aside0 (j ≤ s.size) ∧ Aside0 (On kw ids m B C s j p) ∧ Aside0 ((x, ok) = longest (pfx kw ids s j)) ∧ Aside0 (Drw w wr)) (fun _ _ _ v8 _ => s.size - (intOf v8).toNat)
  case atStart => exact ⟨0, 0, 0, false, rfl, rfl, rfl, rfl, ⟨Nat.zero_le _⟩, ⟨On.start HT.out s⟩, ⟨rfl⟩, ⟨Drw.refl w⟩⟩
  case round =>
    obtain ⟨j, p, x, ok, rfl, rfl, rfl, rfl, HJ, HO, HL, HD⟩ := hrel
    have HA := Aside0.mk (HR.out.chg (HD.out.chg []))
    by_cases hlt : j < s.size
    · have hp := HO.out.lt
      obtain ⟨base, c, e1, e2, e3, hcs, hc0, hc255, hR⟩ := HO.out.round HT.out hlt (HNZ.out j hlt)
      have d2 := HA.out.base p hp
      rw [e1] at d2
      have k1 : ((c:Int) == 0) = false := beq_eq_false_iff_ne.2 (by omega)
      have k2 : (c == 0) = false := beq_eq_false_iff_ne.2 (by omega)
      have r1 : decide ((0:Int) ≤ (p:Int)) = true := decide_eq_true (by omega)
      have r2 : decide ((p:Int) < (m:Int)) = true := decide_eq_true (by omega)
      have r3 : (p:Int) < (m:Int) := by omega
      have r4 : (0:Int) ≤ (p:Int) := by omega
      have r5 : (j:Int) < (s.size:Int) := by omega
      have r6 : (0:Int) ≤ (j:Int) := by omega
      clear e1
      cases hR with
      | far h e =>
        have HE := Aside0.mk e
        clear e
        go_wp2_with fail
        refine still_tail 11 (by kernel_rfl) (by kernel_rfl) ?_
        intro w2 e2
        have HD2 : Aside0 (Drw w w2) := ⟨by rw [e2]; exact HD.out.drewN 1⟩
        rw [show wr.cell? = w2.cell? by rw [e2]; rfl] at d2
        clear e2
        simp only [List.take_succ_cons, List.take_zero, List.drop_succ_cons, List.drop_zero]
        repeat still_step
        refine wpStill_nil ?_
        go_wp2_with fail
        go_ret2
        exact ⟨_, _, rfl, by rw [HE.out]; exact HL.out, HD2.out⟩
      | other h cv h1 h2 h3 e =>
        have d3 := HA.out.check (base + c) h
        rw [h1] at d3
        have n1 : (cv != (p:Int)) = true := bne_iff_ne.2 h2
        have n2 : (cv == (p:Int)) = false := beq_eq_false_iff_ne.2 h2
        have hw : wrap64 cv = cv := by unfold wrap64; omega
        have HE := Aside0.mk e
        clear h1 h2 h3 e
        go_wp2_with fail
        refine still_tail 11 (by kernel_rfl) (by kernel_rfl) ?_
        intro w2 e2
        have HD2 : Aside0 (Drw w w2) := ⟨by rw [e2]; exact HD.out.drewN 1⟩
        rw [show wr.cell? = w2.cell? by rw [e2]; rfl] at d2 d3
        clear e2
        simp only [List.take_succ_cons, List.take_zero, List.drop_succ_cons, List.drop_zero]
        repeat still_step
        refine wpStill_nil ?_
        go_wp2_with fail
        go_ret2
        exact ⟨_, _, rfl, by rw [HE.out]; exact HL.out, HD2.out⟩
      | hit h h1 on b2 h2 h3 h4 y h5 h6 e =>
        have d3 := HA.out.check (base + c) h
        rw [h1] at d3
        have d4 := HA.out.base (base + c) h
        rw [h2] at d4
        have HON := Aside0.mk on
        have HE := Aside0.mk e
        have d5 := HA.out.check b2 h3
        rw [h4, Int.natCast_add] at d5
        have d6 := HA.out.base b2 h3
        rw [h5] at d6
        obtain ⟨y0, y1⟩ := h6
        have k3 : decide (-y ≤ 0) = true := decide_eq_true (by omega)
        have k4 : -y ≤ 0 := by omega
        clear h1 h2 h4 h5 on e
        go_wp2_with fail
        refine still_tail 11 (by kernel_rfl) (by kernel_rfl) ?_
        intro w2 e2
        have HD2 : Aside0 (Drw w w2) := ⟨by rw [e2]; exact HD.out.drewN 1⟩
        rw [show wr.cell? = w2.cell? by rw [e2]; rfl] at d2 d3 d4 d5 d6
        clear e2
        simp only [List.take_succ_cons, List.take_zero, List.drop_succ_cons, List.drop_zero]
        repeat still_step
        refine wpStill_nil ?_
        go_wp2_with fail
        go_roundw
        case rel => exact ⟨j + 1, base + c, y, true, by go_num, by go_num, rfl, rfl, ⟨by omega⟩, HON, ⟨by rw [HE.out, longest_app]⟩, HD2⟩
        case measure => simp [intOf]; omega
      | end1 h h1 on b2 h2 h3 h4 e =>
        have d3 := HA.out.check (base + c) h
        rw [h1] at d3
        have d4 := HA.out.base (base + c) h
        rw [h2] at d4
        have HON := Aside0.mk on
        have HE := Aside0.mk e
        clear h1 h2 on e
        go_wp2_with fail
        refine still_tail 11 (by kernel_rfl) (by kernel_rfl) ?_
        intro w2 e2
        have HD2 : Aside0 (Drw w w2) := ⟨by rw [e2]; exact HD.out.drewN 1⟩
        rw [show wr.cell? = w2.cell? by rw [e2]; rfl] at d2 d3 d4
        clear e2
        simp only [List.take_succ_cons, List.take_zero, List.drop_succ_cons, List.drop_zero]
        repeat still_step
        refine wpStill_nil ?_
        go_wp2_with fail
        go_roundw
        case rel => exact ⟨j + 1, base + c, x, ok, by go_num, by go_num, rfl, rfl, ⟨by omega⟩, HON, ⟨by rw [HE.out]; exact HL.out⟩, HD2⟩
        case measure => simp [intOf]; omega
      | end2 h h1 on b2 h2 h3 cv h4 h5 h6 e =>
        have d3 := HA.out.check (base + c) h
        rw [h1] at d3
        have d4 := HA.out.base (base + c) h
        rw [h2] at d4
        have HON := Aside0.mk on
        have HE := Aside0.mk e
        have d5 := HA.out.check b2 h3
        rw [h4] at d5
        rw [Int.natCast_add] at h5
        have n1 : (cv == (base:Int) + (c:Int)) = false := beq_eq_false_iff_ne.2 h5
        have hw : wrap64 cv = cv := by unfold wrap64; omega
        clear h1 h2 h4 h5 h6 on e
        go_wp2_with fail
        refine still_tail 11 (by kernel_rfl) (by kernel_rfl) ?_
        intro w2 e2
        have HD2 : Aside0 (Drw w w2) := ⟨by rw [e2]; exact HD.out.drewN 1⟩
        rw [show wr.cell? = w2.cell? by rw [e2]; rfl] at d2 d3 d4 d5
        clear e2
        simp only [List.take_succ_cons, List.take_zero, List.drop_succ_cons, List.drop_zero]
        repeat still_step
        refine wpStill_nil ?_
        go_wp2_with fail
        go_roundw
        case rel => exact ⟨j + 1, base + c, x, ok, by go_num, by go_num, rfl, rfl, ⟨by omega⟩, HON, ⟨by rw [HE.out]; exact HL.out⟩, HD2⟩
        case measure => simp [intOf]; omega
    · have hj : j = s.size := by have := HJ.out; omega
      have HL2 := HL.out
      rw [hj] at HL2
      have HL3 := Aside0.mk HL2
      have k1 : decide (j < s.size) = false := decide_eq_false hlt
      have k2 : decide ((j:Int) < (s.size:Int)) = false := decide_eq_false (by omega)
      clear hj HL2
      go_wp2_with fail
      go_ret2
      exact ⟨_, _, rfl, HL3.out, HD.out⟩
theorem trieLongest_idle (p q r : Value) (w : World) :
    CallsD Try.prog 40 #[p, q, r] .returning w fun e u' w' => e = .returned (.tuple #[]) ∧ u' = .returning ∧ w' = w := by
  refine callsD_of_wpS Try.func40 rfl fun c₀ cs hu => ?_
  apply wpS_seq
  apply wpS_region
  simp [wpOpsS, go_sem, recoverD, hu, Try.ntmps40, Exit.thenS]
  refine wpS_cond (t := false) (by simp [Act.eval, Array.replicate]) ?_
  simp only [Bool.false_eq_true, if_false]
  refine wpS_of_wp (wp_skip ?_)
  cases c₀
  simp_all [bodyPostS, results, Try.results40]
def LongAll (kw : List ByteArray) (ids : List Int) (s : ByteArray) (w : World) (e : Ending) (w' : World) : Prop := ∃ x ok, e = .returned (.tuple #[.int .i64 x, .bool ok, .bool true]) ∧ (x, ok) = longest (pfx kw ids s s.size) ∧ Chg [] w w'
set_option maxHeartbeats 2000000 in
set_option maxRecDepth 100000 in
theorem trieLongest_calls (w : World) (A0 A1 : Option Addr) (c0 c1 : Nat) (kw : List ByteArray) (ids : List Int) (s : ByteArray) (hk : Kd.C Kd.string w A0 kw.length kw) (hi : Kd.C (Kd.int .i64) w A1 ids.length ids) (hg : goodB kw (idsOr kw ids)) (hs : textB s) :
    Calls Try.prog 24 #[.slice A0 kw.length c0, .slice A1 ids.length c1, .string s] w (LongAll kw (idsOr kw ids) s w) := by
  have hmf : ∀ (fn : Fn) (first cap : Array Value) (w : World), (Instr.makeFunc fn first cap).run Try.prog w = .ok (.func fn first cap) w := fun _ _ _ _ => rfl
  obtain ⟨v1, v2, v3, hc, hsz⟩ := three_vars w (.int .i64 0) (.bool false) (.bool false) 3 4 4
  have hb := built_calls _ A0 A1 c0 c1 kw ids (Kd.C_below hk (hc.toBelow (Nat.le_refl _) (by simp))) (Kd.C_below hi (hc.toBelow (Nat.le_refl _) (by simp))) hg.good
  have HB := Aside0.mk hb
  have V1 := Aside0.mk v1
  have V2 := Aside0.mk v2
  have V3 := Aside0.mk v3
  have HC := Aside0.mk hc
  have HSZ := Aside0.mk hsz
  have HS := Aside0.mk hs
  clear hb v1 v2 v3 hc hsz hk hi hg hs
  go_enter_defers Try.func24, Try.ntmps24
  go_wp2_with fail
  generalize ((w.alloc (.cells #[.int .i64 0] 3)).alloc (.cells #[.bool false] 4)).alloc (.cells #[.bool false] 4) = w0 at *
  refine HB.out.mono ?_
  rintro e w2 ⟨v, rfl, b, m, B, C, rfl, hrow, hbw, hm, hT, hc2⟩
  have hf := ps_calls w2 b m B C kw (idsOr kw ids) s hrow hm hT HS.out.1 HS.out.2
  have HF := Aside0.mk hf
  have HC2 : Aside0 (Chg [] w w2) := ⟨HC.out.above hc2 (by simp)⟩
  have V1' := Aside0.mk (V1.out.chg hc2 (by simp))
  have V2' := Aside0.mk (V2.out.chg hc2 (by simp))
  have V3' := Aside0.mk (V3.out.chg hc2 (by simp))
  clear hrow hbw hm hT hc2 hf HB V1 V2 V3 HC
  go_wp2_with fail
  refine HF.out.mono ?_
  rintro e w3 ⟨x, ok, rfl, hx, hd3⟩
  have hc3 := hd3.chg []
  have HC3 : Aside0 (Chg [] w w3) := ⟨HC2.out.above hc3 (by simp)⟩
  have V1 := Aside0.mk (V1'.out.chg hc3 (by simp))
  have V2 := Aside0.mk (V2'.out.chg hc3 (by simp))
  have V3 := Aside0.mk (V3'.out.chg hc3 (by simp))
  have HX := Aside0.mk hx
  have d1 := V1.out.cell
  have d2 := V2.out.cell
  have f1 := V1.out.frozen 0 none
  have f2 := V2.out.frozen 0 none
  have hn : w.heap.size ≠ w.heap.size + 1 := by omega
  have hn' : w.heap.size + 1 ≠ w.heap.size := by omega
  clear hc3 hd3 hx HF HC2 V1' V2' V3'
  go_wp2_with fail
  have V1x : Aside0 (Var ((w3.setCell ⟨w.heap.size, 0, none⟩ (.int .i64 x)).setCell ⟨w.heap.size + 1, 0, none⟩ (.bool ok)) w.heap.size 3 (.int .i64 x)) := ⟨(V1.out.set _).setOther (by show w.heap.size ≠ w.heap.size + 1; omega) _⟩
  have V2x : Aside0 (Var ((w3.setCell ⟨w.heap.size, 0, none⟩ (.int .i64 x)).setCell ⟨w.heap.size + 1, 0, none⟩ (.bool ok)) (w.heap.size + 1) 4 (.bool ok)) := ⟨(V2.out.setOther (by show w.heap.size + 1 ≠ w.heap.size; omega) _).set _⟩
  have V3x : Aside0 (Var ((w3.setCell ⟨w.heap.size, 0, none⟩ (.int .i64 x)).setCell ⟨w.heap.size + 1, 0, none⟩ (.bool ok)) (w.heap.size + 1 + 1) 4 (.bool false)) := ⟨(V3.out.setOther (by show w.heap.size + 1 + 1 ≠ w.heap.size; omega) _).setOther (by show w.heap.size + 1 + 1 ≠ w.heap.size + 1; omega) _⟩
  have HC4 : Aside0 (Chg [] w ((w3.setCell ⟨w.heap.size, 0, none⟩ (.int .i64 x)).setCell ⟨w.heap.size + 1, 0, none⟩ (.bool ok))) := ⟨(HC3.out.setCell (.inr (Nat.le_refl _)) _).setCell (.inr (by show w.heap.size ≤ w.heap.size + 1; omega)) _⟩
  clear V1 V2 V3 HC3 d1 d2 f1 f2
  generalize (w3.setCell ⟨w.heap.size, 0, none⟩ (.int .i64 x)).setCell ⟨w.heap.size + 1, 0, none⟩ (.bool ok) = w4 at *
  have d1 := V1x.out.cell
  have d2 := V2x.out.cell
  have d3 := V3x.out.cell
  have f1 := V1x.out.frozen 0 none
  have f2 := V2x.out.frozen 0 none
  have f3 := V3x.out.frozen 0 none
  have hn2 : w.heap.size + 1 + 1 ≠ w.heap.size := by omega
  have hn3 : w.heap.size + 1 + 1 ≠ w.heap.size + 1 := by omega
  have hn4 : w.heap.size ≠ w.heap.size + 1 + 1 := by omega
  have hn5 : w.heap.size + 1 ≠ w.heap.size + 1 + 1 := by omega
  go_region_held3 (fun w' => w'.cell? ⟨w.heap.size, 0, none⟩ = some (.int .i64 x) ∧ w'.cell? ⟨w.heap.size + 1, 0, none⟩ = some (.bool ok)) (first | (refine ⟨?_, ?_⟩ <;> (refine keep_cell_d ?_ (by simp)) <;> repeat (first | assumption | refine keep_cell ?_ (by simp))) | go_keep | assumption) (fail)
  all_goals go_wp2_with fail
  all_goals refine leaves_cons (f := 40) (args := #[.pointer (some ⟨w.heap.size, 0, none⟩), .pointer (some ⟨w.heap.size + 1, 0, none⟩), .pointer (some ⟨w.heap.size + 1 + 1, 0, none⟩)]) (by simp) (by simp [go_sem]) ?_
  all_goals refine (trieLongest_idle _ _ _ _).mono ?_
  all_goals rintro e u' w5 ⟨rfl, rfl, rfl⟩
  all_goals refine ⟨.tuple #[.int .i64 x, .bool ok, .bool true], ?_, x, ok, rfl, HX.out, ?_⟩
  · have e1 := keep_cell (a := ⟨w.heap.size + 1 + 1, 0, none⟩) (y := .bool true) (keep_cell (a := ⟨w.heap.size + 1, 0, none⟩) (y := .bool ok) (keep_cell (a := ⟨w.heap.size, 0, none⟩) (y := .int .i64 x) d1 (fun _ => rfl)) (by simp)) (by simp)
    have e2 := keep_cell (a := ⟨w.heap.size + 1 + 1, 0, none⟩) (y := .bool true) (keep_cell (a := ⟨w.heap.size + 1, 0, none⟩) (y := .bool ok) (keep_cell (a := ⟨w.heap.size, 0, none⟩) (y := .int .i64 x) d2 (by simp)) (fun _ => rfl)) (by simp)
    have e3 := World.cell?_setCell_same ((w4.setCell ⟨w.heap.size, 0, none⟩ (.int .i64 x)).setCell ⟨w.heap.size + 1, 0, none⟩ (.bool ok)) ⟨w.heap.size + 1 + 1, 0, none⟩ (.bool true) (keep_cell (a := ⟨w.heap.size + 1, 0, none⟩) (y := .bool ok) (keep_cell (a := ⟨w.heap.size, 0, none⟩) (y := .int .i64 x) d3 (by simp)) (by simp))
    generalize ((w4.setCell ⟨w.heap.size, 0, none⟩ (.int .i64 x)).setCell ⟨w.heap.size + 1, 0, none⟩ (.bool ok)).setCell ⟨w.heap.size + 1 + 1, 0, none⟩ (.bool true) = w6 at *
    simp [results, Try.results24, go_sem, e1, e2, e3]
  · exact (((HC4.out.setCell (.inr (Nat.le_refl _)) _).setCell (.inr (by show w.heap.size ≤ w.heap.size + 1; omega)) _).setCell (.inr (by show w.heap.size ≤ w.heap.size + 1 + 1; omega)) _).drew
end Go.Proofs.Ytddcjmdcpkmnjaa.Da
namespace Go.Proofs.Ytddcjmdcpkmnjaa.P
open Go.RowKit Go.Proofs.YtddcjmdcpkmnjaaW.PrintWords Go.Proofs.YtddcjmdcpkmnjaaW.PrintLast Go.Proofs.YtddcjmdcpkmnjaaW.PrintMore Go.Proofs.Ytddcjmdcpkmnjaa.Gn Go.Proofs.Ytddcjmdcpkmnjaa.Da
def impl_TrieLongest.f (l0 : List ByteArray) (l1 : List Int) (s : ByteArray) : Option (Int × Bool × Bool) :=
  if goodB l0 (idsOr l0 l1) ∧ textB s then some ((longest (pfx l0 (idsOr l0 l1) s s.size)).1, (longest (pfx l0 (idsOr l0 l1) s s.size)).2, true) else none
theorem impl_TrieLongest.calls (A0 : Option Addr) (c0 : Nat) (l0 : List ByteArray) (A1 : Option Addr) (c1 : Nat) (l1 : List Int) (s : ByteArray) (r1 : Int) (r2 r3 : Bool) (w : World) (hr0 : Kd.C Kd.string w A0 l0.length l0) (hc0 : l0.length ≤ c0) (hr1 : Kd.C (Kd.int .i64) w A1 l1.length l1) (hc1 : l1.length ≤ c1) (h : impl_TrieLongest.f l0 l1 s = some (r1, r2, r3)) :
    Calls Try.prog 24 #[.slice A0 l0.length c0, .slice A1 l1.length c1, .string s] w fun e w' => e = .returned (.tuple #[.int .i64 r1, .bool r2, .bool r3]) ∧ Below w.heap.size w w' := by
  unfold impl_TrieLongest.f at h
  split at h
  case isFalse => cases h
  rename_i hok
  injection h with h
  refine (trieLongest_calls w A0 A1 c0 c1 l0 l1 s hr0 hr1 hok.1 hok.2).mono ?_
  rintro e w' ⟨x, ok, rfl, hx, hc⟩
  rw [← hx] at h
  simp only [Prod.mk.injEq] at h
  obtain ⟨rfl, rfl, rfl⟩ := h
  exact ⟨rfl, hc.toBelow (Nat.le_refl _) (by simp)⟩
end Go.Proofs.Ytddcjmdcpkmnjaa.P
