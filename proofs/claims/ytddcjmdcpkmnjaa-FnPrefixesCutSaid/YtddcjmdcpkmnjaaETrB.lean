/- impl.TriePrefixes. -/
import Derived.Test.YtddcjmdcpkmnjaaECp
set_option linter.unusedVariables false
namespace Go.Proofs.Ytddcjmdcpkmnjaa.Gn
theorem Two.lift {e : Nat} {w w2 w3 w6 : World} {va vb : Value} {la lb : List Value} {S : List Nat} (h : Two e w2 w3 va vb la lb) (hc : Chg [] w w2) (hS : ∀ g ∈ S, g < w2.heap.size) (h6 : Chg S w3 w6) (hw : Chg [] w w6) : Two e w w6 va vb la lb :=
  ⟨h.a.chg h6 (fun g hg hm => by have := h.na g hg; have := hS g hm; omega), h.b.chg h6 (fun g hg hm => by have := h.nb g hg; have := hS g hm; omega), hw, fun g hg => Nat.le_trans hc.size (h.na g hg), fun g hg => Nat.le_trans hc.size (h.nb g hg), h.ne⟩
end Go.Proofs.Ytddcjmdcpkmnjaa.Gn
namespace Go.Proofs.Ytddcjmdcpkmnjaa.Da
open Go.RowKit Go.Proofs.YtddcjmdcpkmnjaaW.PrintWords Go.Proofs.Ytddcjmdcpkmnjaa.Gn
theorem triePrefixes_idle (p q r : Value) (w : World) :
    CallsD Try.prog 30 #[p, q, r] .returning w fun e u' w' => e = .returned (.tuple #[]) ∧ u' = .returning ∧ w' = w := by
  refine callsD_of_wpS Try.func30 rfl fun c₀ cs hu => ?_
  apply wpS_seq
  apply wpS_region
  simp [wpOpsS, go_sem, recoverD, hu, Try.ntmps30, Exit.thenS]
  refine wpS_cond (t := false) (by simp [Act.eval, Array.replicate]) ?_
  simp only [Bool.false_eq_true, if_false]
  refine wpS_of_wp (wp_skip ?_)
  cases c₀
  simp_all [bodyPostS, results, Try.results30]
def PxPost (kw : List ByteArray) (ids : List Int) (s : ByteArray) (w : World) (e : Ending) (w' : World) : Prop :=
  ∃ va vb, e = .returned (.tuple #[va, vb, .bool true]) ∧ Two 3 w w' va vb (fsts (pfx kw ids s s.size)) (snds (pfx kw ids s s.size))
set_option maxHeartbeats 2000000 in
set_option maxRecDepth 100000 in
theorem triePrefixes_calls (w : World) (A0 A1 : Option Addr) (c0 c1 : Nat) (kw : List ByteArray) (ids : List Int) (s : ByteArray) (hk : Kd.C Kd.string w A0 kw.length kw) (hi : Kd.C (Kd.int .i64) w A1 ids.length ids) (hg : goodB kw (idsOr kw ids)) (hs : textB s) :
    Calls Try.prog 16 #[.slice A0 kw.length c0, .slice A1 ids.length c1, .string s] w (PxPost kw (idsOr kw ids) s w) := by
  have hmf : ∀ (fn : Fn) (first cap : Array Value) (w : World), (Instr.makeFunc fn first cap).run Try.prog w = .ok (.func fn first cap) w := fun _ _ _ _ => rfl
  obtain ⟨v1, v2, v3, hc, hsz⟩ := three_vars w (.slice none 0 0) (.slice none 0 0) (.bool false) 23 23 4
  have hb := built_calls _ A0 A1 c0 c1 kw ids (Kd.C_below hk (hc.toBelow (Nat.le_refl _) (by simp))) (Kd.C_below hi (hc.toBelow (Nat.le_refl _) (by simp))) hg.good
  have HB := Aside0.mk hb
  have V1 := Aside0.mk v1
  have V2 := Aside0.mk v2
  have V3 := Aside0.mk v3
  have HC := Aside0.mk hc
  have HSZ := Aside0.mk hsz
  have HS := Aside0.mk hs
  clear hb v1 v2 v3 hc hsz hk hi hg hs
  go_enter_defers Try.func16, Try.ntmps16
  go_wp2_with fail
  generalize ((w.alloc (.cells #[.slice none 0 0] 23)).alloc (.cells #[.slice none 0 0] 23)).alloc (.cells #[.bool false] 4) = w0 at *
  refine HB.out.mono ?_
  rintro e w2 ⟨v, rfl, b, m, B, C, rfl, hrow, hbw, hm, hT, hc2⟩
  have hz2 : w.heap.size + 3 ≤ w2.heap.size := by have := hc2.size; have := HSZ.out; omega
  have hf := cps_calls w2 b m B C kw (idsOr kw ids) s hrow hm hT HS.out.1 HS.out.2
  have HF := Aside0.mk hf
  have HC2 : Aside0 (Chg [] w w2) := ⟨HC.out.above hc2 (by simp)⟩
  have V1' := Aside0.mk (V1.out.chg hc2 (by simp))
  have V2' := Aside0.mk (V2.out.chg hc2 (by simp))
  have V3' := Aside0.mk (V3.out.chg hc2 (by simp))
  clear hrow hbw hm hT hc2 hf HB V1 V2 V3 HC
  go_wp2_with fail
  refine HF.out.mono ?_
  rintro e w3 ⟨va, vb, rfl, h2⟩
  obtain ⟨A4, c4, e4, _⟩ := h2.a.slice
  obtain ⟨A5, c5, e5, _⟩ := h2.b.slice
  obtain ⟨n4, HN4⟩ : ∃ n4, n4 = (fsts (pfx kw (idsOr kw ids) s s.size)).length := ⟨_, rfl⟩
  obtain ⟨n5, HN5⟩ : ∃ n5, n5 = (snds (pfx kw (idsOr kw ids) s s.size)).length := ⟨_, rfl⟩
  rw [← HN4] at e4
  rw [← HN5] at e5
  subst e4 e5
  clear HN4 HN5
  have hc3 := h2.chg
  have HC3 : Aside0 (Chg [] w w3) := ⟨HC2.out.above hc3 (by simp)⟩
  have V1 := Aside0.mk (V1'.out.chg hc3 (by simp))
  have V2 := Aside0.mk (V2'.out.chg hc3 (by simp))
  have V3 := Aside0.mk (V3'.out.chg hc3 (by simp))
  have H2 := Aside0.mk h2
  have HZ2 : Aside0 (w.heap.size + 3 ≤ w2.heap.size) := ⟨hz2⟩
  have d1 := V1.out.cell
  have d2 := V2.out.cell
  have f1 := V1.out.frozen 0 none
  have f2 := V2.out.frozen 0 none
  have hn : w.heap.size ≠ w.heap.size + 1 := by omega
  have hn' : w.heap.size + 1 ≠ w.heap.size := by omega
  clear hc3 h2 HF V1' V2' V3'
  go_wp2_with fail
  have V1x : Aside0 (Var ((w3.setCell ⟨w.heap.size, 0, none⟩ (.slice A4 n4 c4)).setCell ⟨w.heap.size + 1, 0, none⟩ (.slice A5 n5 c5)) w.heap.size 23 (.slice A4 n4 c4)) := ⟨(V1.out.set _).setOther (by show w.heap.size ≠ w.heap.size + 1; omega) _⟩
  have V2x : Aside0 (Var ((w3.setCell ⟨w.heap.size, 0, none⟩ (.slice A4 n4 c4)).setCell ⟨w.heap.size + 1, 0, none⟩ (.slice A5 n5 c5)) (w.heap.size + 1) 23 (.slice A5 n5 c5)) := ⟨(V2.out.setOther (by show w.heap.size + 1 ≠ w.heap.size; omega) _).set _⟩
  have V3x : Aside0 (Var ((w3.setCell ⟨w.heap.size, 0, none⟩ (.slice A4 n4 c4)).setCell ⟨w.heap.size + 1, 0, none⟩ (.slice A5 n5 c5)) (w.heap.size + 1 + 1) 4 (.bool false)) := ⟨(V3.out.setOther (by show w.heap.size + 1 + 1 ≠ w.heap.size; omega) _).setOther (by show w.heap.size + 1 + 1 ≠ w.heap.size + 1; omega) _⟩
  have HC4 : Aside0 (Chg [] w ((w3.setCell ⟨w.heap.size, 0, none⟩ (.slice A4 n4 c4)).setCell ⟨w.heap.size + 1, 0, none⟩ (.slice A5 n5 c5))) := ⟨(HC3.out.setCell (.inr (Nat.le_refl _)) _).setCell (.inr (by show w.heap.size ≤ w.heap.size + 1; omega)) _⟩
  have HK4 : Aside0 (Chg [w.heap.size, w.heap.size + 1, w.heap.size + 1 + 1] w3 ((w3.setCell ⟨w.heap.size, 0, none⟩ (.slice A4 n4 c4)).setCell ⟨w.heap.size + 1, 0, none⟩ (.slice A5 n5 c5))) := ⟨((Chg.refl _ w3).setCell (.inl (by simp)) _).setCell (.inl (by simp)) _⟩
  clear V1 V2 V3 HC3 d1 d2 f1 f2
  generalize (w3.setCell ⟨w.heap.size, 0, none⟩ (.slice A4 n4 c4)).setCell ⟨w.heap.size + 1, 0, none⟩ (.slice A5 n5 c5) = w4 at *
  have d1 := V1x.out.cell
  have d2 := V2x.out.cell
  have d3 := V3x.out.cell
  have f1 := V1x.out.frozen 0 none
  have f2 := V2x.out.frozen 0 none
  have f3 := V3x.out.frozen 0 none
  have hn2 : w.heap.size + 1 + 1 ≠ w.heap.size := by omega
  have hn3 : w.heap.size + 1 + 1 ≠ w.heap.size + 1 := by omega
  have hn4 : w.heap.size ≠ w.heap.size + 1 + 1 := by omega
  have hn5 : w.heap.size + 1 ≠ w.heap.size + 1 + 1 := by omega
  go_region_held3 (fun w' => w'.cell? ⟨w.heap.size, 0, none⟩ = some (.slice A4 n4 c4) ∧ w'.cell? ⟨w.heap.size + 1, 0, none⟩ = some (.slice A5 n5 c5)) (first | (refine ⟨?_, ?_⟩ <;> (refine keep_cell_d ?_ (by simp)) <;> repeat (first | assumption | refine keep_cell ?_ (by simp))) | go_keep | assumption) (fail)
  all_goals go_wp2_with fail
  all_goals refine leaves_cons (f := 30) (args := #[.pointer (some ⟨w.heap.size, 0, none⟩), .pointer (some ⟨w.heap.size + 1, 0, none⟩), .pointer (some ⟨w.heap.size + 1 + 1, 0, none⟩)]) (by simp) (by simp [go_sem]) ?_
  all_goals refine (triePrefixes_idle _ _ _ _).mono ?_
  all_goals rintro e u' w5 ⟨rfl, rfl, rfl⟩
  all_goals refine ⟨.tuple #[.slice A4 n4 c4, .slice A5 n5 c5, .bool true], ?_, .slice A4 n4 c4, .slice A5 n5 c5, rfl, H2.out.lift HC2.out (by have := HZ2.out; simp only [List.mem_cons, List.not_mem_nil, or_false]; rintro g (rfl | rfl | rfl) <;> omega) (((HK4.out.setCell (.inl (by simp)) _).setCell (.inl (by simp)) _).setCell (.inl (by simp)) _).drew ?_⟩
  · have e1 := keep_cell (a := ⟨w.heap.size + 1 + 1, 0, none⟩) (y := .bool true) (keep_cell (a := ⟨w.heap.size + 1, 0, none⟩) (y := .slice A5 n5 c5) (keep_cell (a := ⟨w.heap.size, 0, none⟩) (y := .slice A4 n4 c4) d1 (fun _ => rfl)) (by simp)) (by simp)
    have e2 := keep_cell (a := ⟨w.heap.size + 1 + 1, 0, none⟩) (y := .bool true) (keep_cell (a := ⟨w.heap.size + 1, 0, none⟩) (y := .slice A5 n5 c5) (keep_cell (a := ⟨w.heap.size, 0, none⟩) (y := .slice A4 n4 c4) d2 (by simp)) (fun _ => rfl)) (by simp)
    have e3 := World.cell?_setCell_same ((w4.setCell ⟨w.heap.size, 0, none⟩ (.slice A4 n4 c4)).setCell ⟨w.heap.size + 1, 0, none⟩ (.slice A5 n5 c5)) ⟨w.heap.size + 1 + 1, 0, none⟩ (.bool true) (keep_cell (a := ⟨w.heap.size + 1, 0, none⟩) (y := .slice A5 n5 c5) (keep_cell (a := ⟨w.heap.size, 0, none⟩) (y := .slice A4 n4 c4) d3 (by simp)) (by simp))
    generalize ((w4.setCell ⟨w.heap.size, 0, none⟩ (.slice A4 n4 c4)).setCell ⟨w.heap.size + 1, 0, none⟩ (.slice A5 n5 c5)).setCell ⟨w.heap.size + 1 + 1, 0, none⟩ (.bool true) = w6 at *
    simp [results, Try.results16, go_sem, e1, e2, e3]
  · exact (((HC4.out.setCell (.inr (Nat.le_refl _)) _).setCell (.inr (by show w.heap.size ≤ w.heap.size + 1; omega)) _).setCell (.inr (by show w.heap.size ≤ w.heap.size + 1 + 1; omega)) _).drew
end Go.Proofs.Ytddcjmdcpkmnjaa.Da
namespace Go.Proofs.Ytddcjmdcpkmnjaa.P
open Go.RowKit Go.Proofs.YtddcjmdcpkmnjaaW.PrintWords Go.Proofs.YtddcjmdcpkmnjaaW.PrintLast Go.Proofs.YtddcjmdcpkmnjaaW.PrintMore Go.Proofs.Ytddcjmdcpkmnjaa.Gn Go.Proofs.Ytddcjmdcpkmnjaa.Da
def impl_TriePrefixes.f (l0 : List ByteArray) (l1 : List Int) (s : ByteArray) : Option (List Int × List Int × Bool) :=
  if goodB l0 (idsOr l0 l1) ∧ textB s then some ((pfx l0 (idsOr l0 l1) s s.size).map (·.1), (pfx l0 (idsOr l0 l1) s s.size).map (·.2), true) else none
theorem impl_TriePrefixes.calls (A0 : Option Addr) (c0 : Nat) (l0 : List ByteArray) (A1 : Option Addr) (c1 : Nat) (l1 : List Int) (s : ByteArray) (r1 r2 : List Int) (r3 : Bool) (w : World) (hr0 : Kd.C Kd.string w A0 l0.length l0) (hc0 : l0.length ≤ c0) (hr1 : Kd.C (Kd.int .i64) w A1 l1.length l1) (hc1 : l1.length ≤ c1) (h : impl_TriePrefixes.f l0 l1 s = some (r1, r2, r3)) :
    Calls Try.prog 16 #[.slice A0 l0.length c0, .slice A1 l1.length c1, .string s] w fun e w' => ∃ v0_ v1_ : Value, e = .returned (.tuple #[v0_, v1_, .bool r3]) ∧ Kd.R (Kd.int .i64) 3 w' w.heap.size (fun k_ => some k_ ≠ (v1_ : Value).ownBlock) v0_ r1 ∧ Kd.R (Kd.int .i64) 3 w' w.heap.size (fun k_ => some k_ ≠ (v0_ : Value).ownBlock) v1_ r2 ∧ Below w.heap.size w w' := by
  unfold impl_TriePrefixes.f at h
  split at h
  case isFalse => cases h
  rename_i hok
  injection h with h
  simp only [Prod.mk.injEq] at h
  obtain ⟨rfl, rfl, rfl⟩ := h
  refine (triePrefixes_calls w A0 A1 c0 c1 l0 l1 s hr0 hr1 hok.1 hok.2).mono ?_
  rintro e w' ⟨va, vb, rfl, h2⟩
  refine ⟨va, vb, rfl, R_of_row (enc := Value.int .i64) ?_ (fun g hg => ⟨h2.na g hg, fun q => h2.ne g hg q.symm⟩), R_of_row (enc := Value.int .i64) ?_ (fun g hg => ⟨h2.nb g hg, fun q => h2.ne g q.symm hg⟩), h2.chg.toBelow (Nat.le_refl _) (by simp)⟩
  · have := h2.a; unfold fsts at this; rw [List.map_map]; exact this
  · have := h2.b; unfold snds at this; rw [List.map_map]; exact this
end Go.Proofs.Ytddcjmdcpkmnjaa.P
