/- impl.TrieFind. -/
import Derived.Test.YtddcjmdcpkmnjaaMBu
import Derived.Defers
import Derived.Recover
import Derived.Deep.RegionHeld3
set_option linter.unusedVariables false
namespace Go.Proofs.Ytddcjmdcpkmnjaa.Da
open Go.RowKit Go.Proofs.YtddcjmdcpkmnjaaW.PrintWords Go.Proofs.Ytddcjmdcpkmnjaa.Gn
def goodB (kw : List ByteArray) (ids : List Int) : Prop := ids.length = kw.length ∧ 0 < kw.length ∧ kw.length ≤ 30 ∧ kw.Nodup ∧ (∀ x ∈ ids, 0 ≤ x ∧ x ≤ 1100000) ∧ (∀ s ∈ kw, s.size ≤ 40) ∧ (∀ s ∈ kw, ∀ j, j < s.size → (s.get! j).toNat ≠ 0)
instance (kw : List ByteArray) (ids : List Int) : Decidable (goodB kw ids) := by unfold goodB; infer_instance
theorem goodB.good {kw : List ByteArray} {ids : List Int} (h : goodB kw ids) : Good kw ids := by
  obtain ⟨h1, h2, h3, h4, h5, h6, h7⟩ := h
  exact ⟨h1, h2, h3, h4, h5, h6, h7⟩
def textB (s : ByteArray) : Prop := s.size ≤ 1000 ∧ ∀ j, j < s.size → (s.get! j).toNat ≠ 0
instance (s : ByteArray) : Decidable (textB s) := by unfold textB; infer_instance
theorem three_vars (w : World) (x y z : Value) (t u v : TypeId) :
    Var (((w.alloc (.cells #[x] t)).alloc (.cells #[y] u)).alloc (.cells #[z] v)) w.heap.size t x ∧ Var (((w.alloc (.cells #[x] t)).alloc (.cells #[y] u)).alloc (.cells #[z] v)) (w.heap.size + 1) u y ∧ Var (((w.alloc (.cells #[x] t)).alloc (.cells #[y] u)).alloc (.cells #[z] v)) (w.heap.size + 1 + 1) v z ∧ Chg [] w (((w.alloc (.cells #[x] t)).alloc (.cells #[y] u)).alloc (.cells #[z] v)) ∧ (((w.alloc (.cells #[x] t)).alloc (.cells #[y] u)).alloc (.cells #[z] v)).heap.size = w.heap.size + 3 := by
  have h1 : Var (w.alloc (.cells #[x] t)) w.heap.size t x := heap_alloc_new _ _
  have h2 := heap_alloc_new (w.alloc (.cells #[x] t)) (.cells #[y] u)
  rw [size_alloc] at h2
  have h2 : Var ((w.alloc (.cells #[x] t)).alloc (.cells #[y] u)) (w.heap.size + 1) u y := h2
  have h3 := heap_alloc_new ((w.alloc (.cells #[x] t)).alloc (.cells #[y] u)) (.cells #[z] v)
  rw [size_alloc, size_alloc] at h3
  exact ⟨(h1.alloc _).alloc _, h2.alloc _, h3, (((Chg.refl [] w).alloc _).alloc _).alloc _, by rw [size_alloc, size_alloc, size_alloc]⟩
theorem keep_cell {w : World} {p a : Addr} {x y : Value} (h : w.cell? p = some x) (hxy : a = p → y = x) : (w.setCell a y).cell? p = some x := by
  by_cases e : a = p
  · subst e
    rw [hxy rfl]
    exact World.cell?_setCell_same _ _ _ h
  · exact (World.cell?_setCell_other _ _ _ _ e).trans h
theorem keep_cell_d {w : World} {p a : Addr} {x y : Value} (h : w.cell? p = some x) (hxy : a = p → y = x) : (w.setCell a y).drew.cell? p = some x := keep_cell h hxy
theorem trieFind_idle (p q r : Value) (w : World) :
    CallsD Try.prog 26 #[p, q, r] .returning w fun e u' w' => e = .returned (.tuple #[]) ∧ u' = .returning ∧ w' = w := by
  refine callsD_of_wpS Try.func26 rfl fun c₀ cs hu => ?_
  apply wpS_seq
  apply wpS_region
  simp [wpOpsS, go_sem, recoverD, hu, Try.ntmps26, Exit.thenS]
  refine wpS_cond (t := false) (by simp [Act.eval, Array.replicate]) ?_
  simp only [Bool.false_eq_true, if_false]
  refine wpS_of_wp (wp_skip ?_)
  cases c₀
  simp_all [bodyPostS, results, Try.results26]
def FindAll (kw : List ByteArray) (ids : List Int) (s : ByteArray) (w : World) (e : Ending) (w' : World) : Prop := ∃ x ok, e = .returned (.tuple #[.int .i64 x, .bool ok, .bool true]) ∧ (x, ok) = find kw ids s ∧ Chg [] w w'
set_option maxHeartbeats 2000000 in
set_option maxRecDepth 100000 in
theorem trieFind_calls (w : World) (A0 A1 : Option Addr) (c0 c1 : Nat) (kw : List ByteArray) (ids : List Int) (s : ByteArray) (hk : Kd.C Kd.string w A0 kw.length kw) (hi : Kd.C (Kd.int .i64) w A1 ids.length ids) (hg : goodB kw (idsOr kw ids)) (hs : textB s) :
    Calls Try.prog 14 #[.slice A0 kw.length c0, .slice A1 ids.length c1, .string s] w (FindAll kw (idsOr kw ids) s w) := by
  have hmf : ∀ (fn : Fn) (first cap : Array Value) (w : World), (Instr.makeFunc fn first cap).run Try.prog w = .ok (.func fn first cap) w := fun _ _ _ _ => rfl
  obtain ⟨v1, v2, v3, hc, hsz⟩ := three_vars w (.int .i64 0) (.bool false) (.bool false) 3 4 4
  have hb := built_calls _ A0 A1 c0 c1 kw ids (Kd.C_below hk (hc.toBelow (Nat.le_refl _) (by simp))) (Kd.C_below hi (hc.toBelow (Nat.le_refl _) (by simp))) hg.good
  have HB := Aside0.mk hb
  have V1 := Aside0.mk v1
  have V2 := Aside0.mk v2
  have V3 := Aside0.mk v3
  have HC := Aside0.mk hc
  have HSZ := Aside0.mk hsz
  have HS := Aside0.mk hs
  clear hb v1 v2 v3 hc hsz hk hi hg hs
  go_enter_defers Try.func14, Try.ntmps14
  go_wp2_with fail
  generalize ((w.alloc (.cells #[.int .i64 0] 3)).alloc (.cells #[.bool false] 4)).alloc (.cells #[.bool false] 4) = w0 at *
  refine HB.out.mono ?_
  rintro e w2 ⟨v, rfl, b, m, B, C, rfl, hrow, hbw, hm, hT, hc2⟩
  have hf := find_calls w2 b m B C kw (idsOr kw ids) s hrow hm hT HS.out.1 HS.out.2
  have HF := Aside0.mk hf
  have HC2 : Aside0 (Chg [] w w2) := ⟨HC.out.above hc2 (by simp)⟩
  have V1' := Aside0.mk (V1.out.chg hc2 (by simp))
  have V2' := Aside0.mk (V2.out.chg hc2 (by simp))
  have V3' := Aside0.mk (V3.out.chg hc2 (by simp))
  clear hrow hbw hm hT hc2 hf HB V1 V2 V3 HC
  go_wp2_with fail
  refine HF.out.mono ?_
  rintro e w3 ⟨x, ok, rfl, hx, hc3⟩
  have HC3 : Aside0 (Chg [] w w3) := ⟨HC2.out.above hc3 (by simp)⟩
  have V1 := Aside0.mk (V1'.out.chg hc3 (by simp))
  have V2 := Aside0.mk (V2'.out.chg hc3 (by simp))
  have V3 := Aside0.mk (V3'.out.chg hc3 (by simp))
  have HX := Aside0.mk hx
  have d1 := V1.out.cell
  have d2 := V2.out.cell
  have f1 := V1.out.frozen 0 none
  have f2 := V2.out.frozen 0 none
  have hn : w.heap.size ≠ w.heap.size + 1 := by omega
  have hn' : w.heap.size + 1 ≠ w.heap.size := by omega
  clear hc3 hx HF HC2 V1' V2' V3'
  go_wp2_with fail
  have V1x : Aside0 (Var ((w3.setCell ⟨w.heap.size, 0, none⟩ (.int .i64 x)).setCell ⟨w.heap.size + 1, 0, none⟩ (.bool ok)) w.heap.size 3 (.int .i64 x)) := ⟨(V1.out.set _).setOther (by show w.heap.size ≠ w.heap.size + 1; omega) _⟩
  have V2x : Aside0 (Var ((w3.setCell ⟨w.heap.size, 0, none⟩ (.int .i64 x)).setCell ⟨w.heap.size + 1, 0, none⟩ (.bool ok)) (w.heap.size + 1) 4 (.bool ok)) := ⟨(V2.out.setOther (by show w.heap.size + 1 ≠ w.heap.size; omega) _).set _⟩
  have V3x : Aside0 (Var ((w3.setCell ⟨w.heap.size, 0, none⟩ (.int .i64 x)).setCell ⟨w.heap.size + 1, 0, none⟩ (.bool ok)) (w.heap.size + 1 + 1) 4 (.bool false)) := ⟨(V3.out.setOther (by show w.heap.size + 1 + 1 ≠ w.heap.size; omega) _).setOther (by show w.heap.size + 1 + 1 ≠ w.heap.size + 1; omega) _⟩
  have HC4 : Aside0 (Chg [] w ((w3.setCell ⟨w.heap.size, 0, none⟩ (.int .i64 x)).setCell ⟨w.heap.size + 1, 0, none⟩ (.bool ok))) := ⟨(HC3.out.setCell (.inr (Nat.le_refl _)) _).setCell (.inr (by show w.heap.size ≤ w.heap.size + 1; omega)) _⟩
  clear V1 V2 V3 HC3 d1 d2 f1 f2
  generalize (w3.setCell ⟨w.heap.size, 0, none⟩ (.int .i64 x)).setCell ⟨w.heap.size + 1, 0, none⟩ (.bool ok) = w4 at *
  have d1 := V1x.out.cell
  have d2 := V2x.out.cell
  have d3 := V3x.out.cell
  have f1 := V1x.out.frozen 0 none
  have f2 := V2x.out.frozen 0 none
  have f3 := V3x.out.frozen 0 none
  have hn2 : w.heap.size + 1 + 1 ≠ w.heap.size := by omega
  have hn3 : w.heap.size + 1 + 1 ≠ w.heap.size + 1 := by omega
  have hn4 : w.heap.size ≠ w.heap.size + 1 + 1 := by omega
  have hn5 : w.heap.size + 1 ≠ w.heap.size + 1 + 1 := by omega
  go_region_held3 (fun w' => w'.cell? ⟨w.heap.size, 0, none⟩ = some (.int .i64 x) ∧ w'.cell? ⟨w.heap.size + 1, 0, none⟩ = some (.bool ok)) (first | (refine ⟨?_, ?_⟩ <;> (refine keep_cell_d ?_ (by simp)) <;> repeat (first | assumption | refine keep_cell ?_ (by simp))) | go_keep | assumption) (fail)
  all_goals go_wp2_with fail
  all_goals refine leaves_cons (f := 26) (args := #[.pointer (some ⟨w.heap.size, 0, none⟩), .pointer (some ⟨w.heap.size + 1, 0, none⟩), .pointer (some ⟨w.heap.size + 1 + 1, 0, none⟩)]) (by simp) (by simp [go_sem]) ?_
  all_goals refine (trieFind_idle _ _ _ _).mono ?_
  all_goals rintro e u' w5 ⟨rfl, rfl, rfl⟩
  all_goals refine ⟨.tuple #[.int .i64 x, .bool ok, .bool true], ?_, x, ok, rfl, HX.out, ?_⟩
  · have e1 := keep_cell (a := ⟨w.heap.size + 1 + 1, 0, none⟩) (y := .bool true) (keep_cell (a := ⟨w.heap.size + 1, 0, none⟩) (y := .bool ok) (keep_cell (a := ⟨w.heap.size, 0, none⟩) (y := .int .i64 x) d1 (fun _ => rfl)) (by simp)) (by simp)
    have e2 := keep_cell (a := ⟨w.heap.size + 1 + 1, 0, none⟩) (y := .bool true) (keep_cell (a := ⟨w.heap.size + 1, 0, none⟩) (y := .bool ok) (keep_cell (a := ⟨w.heap.size, 0, none⟩) (y := .int .i64 x) d2 (by simp)) (fun _ => rfl)) (by simp)
    have e3 := World.cell?_setCell_same ((w4.setCell ⟨w.heap.size, 0, none⟩ (.int .i64 x)).setCell ⟨w.heap.size + 1, 0, none⟩ (.bool ok)) ⟨w.heap.size + 1 + 1, 0, none⟩ (.bool true) (keep_cell (a := ⟨w.heap.size + 1, 0, none⟩) (y := .bool ok) (keep_cell (a := ⟨w.heap.size, 0, none⟩) (y := .int .i64 x) d3 (by simp)) (by simp))
    generalize ((w4.setCell ⟨w.heap.size, 0, none⟩ (.int .i64 x)).setCell ⟨w.heap.size + 1, 0, none⟩ (.bool ok)).setCell ⟨w.heap.size + 1 + 1, 0, none⟩ (.bool true) = w6 at *
    simp [results, Try.results14, go_sem, e1, e2, e3]
  · exact (((HC4.out.setCell (.inr (Nat.le_refl _)) _).setCell (.inr (by show w.heap.size ≤ w.heap.size + 1; omega)) _).setCell (.inr (by show w.heap.size ≤ w.heap.size + 1 + 1; omega)) _).drew
end Go.Proofs.Ytddcjmdcpkmnjaa.Da
namespace Go.Proofs.Ytddcjmdcpkmnjaa.P
open Go.RowKit Go.Proofs.YtddcjmdcpkmnjaaW.PrintWords Go.Proofs.YtddcjmdcpkmnjaaW.PrintLast Go.Proofs.YtddcjmdcpkmnjaaW.PrintMore Go.Proofs.Ytddcjmdcpkmnjaa.Gn Go.Proofs.Ytddcjmdcpkmnjaa.Da
def impl_TrieFind.f (l0 : List ByteArray) (l1 : List Int) (s : ByteArray) : Option (Int × Bool × Bool) :=
  if goodB l0 (idsOr l0 l1) ∧ textB s then some ((find l0 (idsOr l0 l1) s).1, (find l0 (idsOr l0 l1) s).2, true) else none
theorem impl_TrieFind.calls (A0 : Option Addr) (c0 : Nat) (l0 : List ByteArray) (A1 : Option Addr) (c1 : Nat) (l1 : List Int) (s : ByteArray) (r1 : Int) (r2 r3 : Bool) (w : World) (hr0 : Kd.C Kd.string w A0 l0.length l0) (hc0 : l0.length ≤ c0) (hr1 : Kd.C (Kd.int .i64) w A1 l1.length l1) (hc1 : l1.length ≤ c1) (h : impl_TrieFind.f l0 l1 s = some (r1, r2, r3)) :
    Calls Try.prog 14 #[.slice A0 l0.length c0, .slice A1 l1.length c1, .string s] w fun e w' => e = .returned (.tuple #[.int .i64 r1, .bool r2, .bool r3]) ∧ Below w.heap.size w w' := by
  unfold impl_TrieFind.f at h
  split at h
  case isFalse => cases h
  rename_i hok
  injection h with h
  refine (trieFind_calls w A0 A1 c0 c1 l0 l1 s hr0 hr1 hok.1 hok.2).mono ?_
  rintro e w' ⟨x, ok, rfl, hx, hc⟩
  rw [← hx] at h
  simp only [Prod.mk.injEq] at h
  obtain ⟨rfl, rfl, rfl⟩ := h
  exact ⟨rfl, hc.toBelow (Nat.le_refl _) (by simp)⟩
end Go.Proofs.Ytddcjmdcpkmnjaa.P
