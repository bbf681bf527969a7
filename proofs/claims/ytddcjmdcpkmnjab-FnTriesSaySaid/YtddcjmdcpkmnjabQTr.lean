/- impl.TrieFind. The double array, plain: one sign further along a text, and whether a word ends there. The double array: CommonPrefixSearch, PrefixSearch. impl.TriePrefixes. impl.TrieLongest: PrefixSearch. Plain: an index of sorted words, of which one may stand several times. The index: BuildIndexTable. The index: Search. impl.IndexSearch. The index: CommonPrefixSearch. impl.IndexPrefixes. -/
import Derived.Test.YtddcjmdcpkmnjabQBu
import Derived.Defers
import Derived.Recover
import Derived.Deep.RegionHeld3
set_option linter.unusedVariables false
namespace Go.Proofs.Ytddcjmdcpkmnjab.Da
open Go.RowKit Go.Proofs.YtddcjmdcpkmnjabW.PrintWords Go.Proofs.Ytddcjmdcpkmnjab.Gn
def goodB (kw : List ByteArray) (ids : List Int) : Prop := ids.length = kw.length ∧ 0 < kw.length ∧ kw.length ≤ 30 ∧ kw.Nodup ∧ (∀ x ∈ ids, 0 ≤ x ∧ x ≤ 1100000) ∧ (∀ s ∈ kw, s.size ≤ 40) ∧ (∀ s ∈ kw, ∀ j, j < s.size → (s.get! j).toNat ≠ 0)
instance (kw : List ByteArray) (ids : List Int) : Decidable (goodB kw ids) := by unfold goodB; infer_instance
theorem goodB.good {kw : List ByteArray} {ids : List Int} (h : goodB kw ids) : Good kw ids := by
  obtain ⟨h1, h2, h3, h4, h5, h6, h7⟩ := h
  exact ⟨h1, h2, h3, h4, h5, h6, h7⟩
def textB (s : ByteArray) : Prop := s.size ≤ 1000 ∧ ∀ j, j < s.size → (s.get! j).toNat ≠ 0
instance (s : ByteArray) : Decidable (textB s) := by unfold textB; infer_instance
theorem three_vars (w : World) (x y z : Value) (t u v : TypeId) :
    Var (((w.alloc (.cells #[x] t)).alloc (.cells #[y] u)).alloc (.cells #[z] v)) w.heap.size t x ∧ Var (((w.alloc (.cells #[x] t)).alloc (.cells #[y] u)).alloc (.cells #[z] v)) (w.heap.size + 1) u y ∧ Var (((w.alloc (.cells #[x] t)).alloc (.cells #[y] u)).alloc (.cells #[z] v)) (w.heap.size + 1 + 1) v z ∧ Chg [] w (((w.alloc (.cells #[x] t)).alloc (.cells #[y] u)).alloc (.cells #[z] v)) ∧ (((w.alloc (.cells #[x] t)).alloc (.cells #[y] u)).alloc (.cells #[z] v)).heap.size = w.heap.size + 3 := by
  have h1 : Var (w.alloc (.cells #[x] t)) w.heap.size t x := heap_alloc_new _ _
  have h2 := heap_alloc_new (w.alloc (.cells #[x] t)) (.cells #[y] u)
  rw [size_alloc] at h2
  have h2 : Var ((w.alloc (.cells #[x] t)).alloc (.cells #[y] u)) (w.heap.size + 1) u y := h2
  have h3 := heap_alloc_new ((w.alloc (.cells #[x] t)).alloc (.cells #[y] u)) (.cells #[z] v)
  rw [size_alloc, size_alloc] at h3
  exact ⟨(h1.alloc _).alloc _, h2.alloc _, h3, (((Chg.refl [] w).alloc _).alloc _).alloc _, by rw [size_alloc, size_alloc, size_alloc]⟩
theorem keep_cell {w : World} {p a : Addr} {x y : Value} (h : w.cell? p = some x) (hxy : a = p → y = x) : (w.setCell a y).cell? p = some x := by
  by_cases e : a = p
  · subst e
    rw [hxy rfl]
    exact World.cell?_setCell_same _ _ _ h
  · exact (World.cell?_setCell_other _ _ _ _ e).trans h
theorem keep_cell_d {w : World} {p a : Addr} {x y : Value} (h : w.cell? p = some x) (hxy : a = p → y = x) : (w.setCell a y).drew.cell? p = some x := keep_cell h hxy
theorem trieFind_idle (p q r : Value) (w : World) :
    CallsD Try.prog 25 #[p, q, r] .returning w fun e u' w' => e = .returned (.tuple #[]) ∧ u' = .returning ∧ w' = w := by
  refine callsD_of_wpS Try.func25 rfl fun c₀ cs hu => ?_
  apply wpS_seq
  apply wpS_region
  simp [wpOpsS, go_sem, recoverD, hu, Try.ntmps25, Exit.thenS]
  refine wpS_cond (t := false) (by simp [Act.eval, Array.replicate]) ?_
  simp only [Bool.false_eq_true, if_false]
  refine wpS_of_wp (wp_skip ?_)
  cases c₀
  simp_all [bodyPostS, results, Try.results25]
def FindAll (kw : List ByteArray) (ids : List Int) (s : ByteArray) (w : World) (e : Ending) (w' : World) : Prop := ∃ x ok, e = .returned (.tuple #[.int .i64 x, .bool ok, .bool true]) ∧ (x, ok) = find kw ids s ∧ Chg [] w w'
set_option maxHeartbeats 2000000 in
set_option maxRecDepth 100000 in
theorem trieFind_calls (w : World) (A0 A1 : Option Addr) (c0 c1 : Nat) (kw : List ByteArray) (ids : List Int) (s : ByteArray) (hk : Kd.C Kd.string w A0 kw.length kw) (hi : Kd.C (Kd.int .i64) w A1 ids.length ids) (hg : goodB kw (idsOr kw ids)) (hs : textB s) :
    Calls Try.prog 10 #[.slice A0 kw.length c0, .slice A1 ids.length c1, .string s] w (FindAll kw (idsOr kw ids) s w) := by
  have hmf : ∀ (fn : Fn) (first cap : Array Value) (w : World), (Instr.makeFunc fn first cap).run Try.prog w = .ok (.func fn first cap) w := fun _ _ _ _ => rfl
  obtain ⟨v1, v2, v3, hc, hsz⟩ := three_vars w (.int .i64 0) (.bool false) (.bool false) 3 4 4
  have hb := built_calls _ A0 A1 c0 c1 kw ids (Kd.C_below hk (hc.toBelow (Nat.le_refl _) (by simp))) (Kd.C_below hi (hc.toBelow (Nat.le_refl _) (by simp))) hg.good
  have HB := Aside0.mk hb
  have V1 := Aside0.mk v1
  have V2 := Aside0.mk v2
  have V3 := Aside0.mk v3
  have HC := Aside0.mk hc
  have HSZ := Aside0.mk hsz
  have HS := Aside0.mk hs
  clear hb v1 v2 v3 hc hsz hk hi hg hs
  go_enter_defers Try.func10, Try.ntmps10
  go_wp2_with fail
  generalize ((w.alloc (.cells #[.int .i64 0] 3)).alloc (.cells #[.bool false] 4)).alloc (.cells #[.bool false] 4) = w0 at *
  refine HB.out.mono ?_
  rintro e w2 ⟨v, rfl, b, m, B, C, rfl, hrow, hbw, hm, hT, hc2⟩
  have hf := find_calls w2 b m B C kw (idsOr kw ids) s hrow hm hT HS.out.1 HS.out.2
  have HF := Aside0.mk hf
  have HC2 : Aside0 (Chg [] w w2) := ⟨HC.out.above hc2 (by simp)⟩
  have V1' := Aside0.mk (V1.out.chg hc2 (by simp))
  have V2' := Aside0.mk (V2.out.chg hc2 (by simp))
  have V3' := Aside0.mk (V3.out.chg hc2 (by simp))
  clear hrow hbw hm hT hc2 hf HB V1 V2 V3 HC
  go_wp2_with fail
  refine HF.out.mono ?_
  rintro e w3 ⟨x, ok, rfl, hx, hc3⟩
  have HC3 : Aside0 (Chg [] w w3) := ⟨HC2.out.above hc3 (by simp)⟩
  have V1 := Aside0.mk (V1'.out.chg hc3 (by simp))
  have V2 := Aside0.mk (V2'.out.chg hc3 (by simp))
  have V3 := Aside0.mk (V3'.out.chg hc3 (by simp))
  have HX := Aside0.mk hx
  have d1 := V1.out.cell
  have d2 := V2.out.cell
  have f1 := V1.out.frozen 0 none
  have f2 := V2.out.frozen 0 none
  have hn : w.heap.size ≠ w.heap.size + 1 := by omega
  have hn' : w.heap.size + 1 ≠ w.heap.size := by omega
  clear hc3 hx HF HC2 V1' V2' V3'
  go_wp2_with fail
  have V1x : Aside0 (Var ((w3.setCell ⟨w.heap.size, 0, none⟩ (.int .i64 x)).setCell ⟨w.heap.size + 1, 0, none⟩ (.bool ok)) w.heap.size 3 (.int .i64 x)) := ⟨(V1.out.set _).setOther (by show w.heap.size ≠ w.heap.size + 1; omega) _⟩
  have V2x : Aside0 (Var ((w3.setCell ⟨w.heap.size, 0, none⟩ (.int .i64 x)).setCell ⟨w.heap.size + 1, 0, none⟩ (.bool ok)) (w.heap.size + 1) 4 (.bool ok)) := ⟨(V2.out.setOther (by show w.heap.size + 1 ≠ w.heap.size; omega) _).set _⟩
  have V3x : Aside0 (Var ((w3.setCell ⟨w.heap.size, 0, none⟩ (.int .i64 x)).setCell ⟨w.heap.size + 1, 0, none⟩ (.bool ok)) (w.heap.size + 1 + 1) 4 (.bool false)) := ⟨(V3.out.setOther (by show w.heap.size + 1 + 1 ≠ w.heap.size; omega) _).setOther (by show w.heap.size + 1 + 1 ≠ w.heap.size + 1; omega) _⟩
  have HC4 : Aside0 (Chg [] w ((w3.setCell ⟨w.heap.size, 0, none⟩ (.int .i64 x)).setCell ⟨w.heap.size + 1, 0, none⟩ (.bool ok))) := ⟨(HC3.out.setCell (.inr (Nat.le_refl _)) _).setCell (.inr (by show w.heap.size ≤ w.heap.size + 1; omega)) _⟩
  clear V1 V2 V3 HC3 d1 d2 f1 f2
  generalize (w3.setCell ⟨w.heap.size, 0, none⟩ (.int .i64 x)).setCell ⟨w.heap.size + 1, 0, none⟩ (.bool ok) = w4 at *
  have d1 := V1x.out.cell
  have d2 := V2x.out.cell
  have d3 := V3x.out.cell
  have f1 := V1x.out.frozen 0 none
  have f2 := V2x.out.frozen 0 none
  have f3 := V3x.out.frozen 0 none
  have hn2 : w.heap.size + 1 + 1 ≠ w.heap.size := by omega
  have hn3 : w.heap.size + 1 + 1 ≠ w.heap.size + 1 := by omega
  have hn4 : w.heap.size ≠ w.heap.size + 1 + 1 := by omega
  have hn5 : w.heap.size + 1 ≠ w.heap.size + 1 + 1 := by omega
  go_region_held3 (fun w' => w'.cell? ⟨w.heap.size, 0, none⟩ = some (.int .i64 x) ∧ w'.cell? ⟨w.heap.size + 1, 0, none⟩ = some (.bool ok)) (first | (refine ⟨?_, ?_⟩ <;> (refine keep_cell_d ?_ (by simp)) <;> repeat (first | assumption | refine keep_cell ?_ (by simp))) | go_keep | assumption) (fail)
  all_goals go_wp2_with fail
  all_goals refine leaves_cons (f := 25) (args := #[.pointer (some ⟨w.heap.size, 0, none⟩), .pointer (some ⟨w.heap.size + 1, 0, none⟩), .pointer (some ⟨w.heap.size + 1 + 1, 0, none⟩)]) (by simp) (by simp [go_sem]) ?_
  all_goals refine (trieFind_idle _ _ _ _).mono ?_
  all_goals rintro e u' w5 ⟨rfl, rfl, rfl⟩
  all_goals refine ⟨.tuple #[.int .i64 x, .bool ok, .bool true], ?_, x, ok, rfl, HX.out, ?_⟩
  · have e1 := keep_cell (a := ⟨w.heap.size + 1 + 1, 0, none⟩) (y := .bool true) (keep_cell (a := ⟨w.heap.size + 1, 0, none⟩) (y := .bool ok) (keep_cell (a := ⟨w.heap.size, 0, none⟩) (y := .int .i64 x) d1 (fun _ => rfl)) (by simp)) (by simp)
    have e2 := keep_cell (a := ⟨w.heap.size + 1 + 1, 0, none⟩) (y := .bool true) (keep_cell (a := ⟨w.heap.size + 1, 0, none⟩) (y := .bool ok) (keep_cell (a := ⟨w.heap.size, 0, none⟩) (y := .int .i64 x) d2 (by simp)) (fun _ => rfl)) (by simp)
    have e3 := World.cell?_setCell_same ((w4.setCell ⟨w.heap.size, 0, none⟩ (.int .i64 x)).setCell ⟨w.heap.size + 1, 0, none⟩ (.bool ok)) ⟨w.heap.size + 1 + 1, 0, none⟩ (.bool true) (keep_cell (a := ⟨w.heap.size + 1, 0, none⟩) (y := .bool ok) (keep_cell (a := ⟨w.heap.size, 0, none⟩) (y := .int .i64 x) d3 (by simp)) (by simp))
    generalize ((w4.setCell ⟨w.heap.size, 0, none⟩ (.int .i64 x)).setCell ⟨w.heap.size + 1, 0, none⟩ (.bool ok)).setCell ⟨w.heap.size + 1 + 1, 0, none⟩ (.bool true) = w6 at *
    simp [results, Try.results10, go_sem, e1, e2, e3]
  · exact (((HC4.out.setCell (.inr (Nat.le_refl _)) _).setCell (.inr (by show w.heap.size ≤ w.heap.size + 1; omega)) _).setCell (.inr (by show w.heap.size ≤ w.heap.size + 1 + 1; omega)) _).drew
end Go.Proofs.Ytddcjmdcpkmnjab.Da
namespace Go.Proofs.Ytddcjmdcpkmnjab.P
open Go.RowKit Go.Proofs.YtddcjmdcpkmnjabW.PrintWords Go.Proofs.YtddcjmdcpkmnjabW.PrintLast Go.Proofs.YtddcjmdcpkmnjabW.PrintMore Go.Proofs.Ytddcjmdcpkmnjab.Gn Go.Proofs.Ytddcjmdcpkmnjab.Da
def impl_TrieFind.f (l0 : List ByteArray) (l1 : List Int) (s : ByteArray) : Option (Int × Bool × Bool) :=
  if goodB l0 (idsOr l0 l1) ∧ textB s then some ((find l0 (idsOr l0 l1) s).1, (find l0 (idsOr l0 l1) s).2, true) else none
theorem impl_TrieFind.calls (A0 : Option Addr) (c0 : Nat) (l0 : List ByteArray) (A1 : Option Addr) (c1 : Nat) (l1 : List Int) (s : ByteArray) (r1 : Int) (r2 r3 : Bool) (w : World) (hr0 : Kd.C Kd.string w A0 l0.length l0) (hc0 : l0.length ≤ c0) (hr1 : Kd.C (Kd.int .i64) w A1 l1.length l1) (hc1 : l1.length ≤ c1) (h : impl_TrieFind.f l0 l1 s = some (r1, r2, r3)) :
    Calls Try.prog 10 #[.slice A0 l0.length c0, .slice A1 l1.length c1, .string s] w fun e w' => e = .returned (.tuple #[.int .i64 r1, .bool r2, .bool r3]) ∧ Below w.heap.size w w' := by
  unfold impl_TrieFind.f at h
  split at h
  case isFalse => cases h
  rename_i hok
  injection h with h
  refine (trieFind_calls w A0 A1 c0 c1 l0 l1 s hr0 hr1 hok.1 hok.2).mono ?_
  rintro e w' ⟨x, ok, rfl, hx, hc⟩
  rw [← hx] at h
  simp only [Prod.mk.injEq] at h
  obtain ⟨rfl, rfl, rfl⟩ := h
  exact ⟨rfl, hc.toBelow (Nat.le_refl _) (by simp)⟩
end Go.Proofs.Ytddcjmdcpkmnjab.P
namespace Go.Proofs.Ytddcjmdcpkmnjab.Da
/-- The beginnings of s that are words, the first n signs looked at: numbers and lengths. -/
def pfx (kw : List ByteArray) (ids : List Int) (s : ByteArray) (n : Nat) : List (Int × Int) := (List.range n).filterMap fun t => if s.extract 0 (t + 1) ∈ kw then some (idOf kw ids (s.extract 0 (t + 1)), (t : Int) + 1) else none
theorem pfx_zero (kw : List ByteArray) (ids : List Int) (s : ByteArray) : pfx kw ids s 0 = [] := rfl
theorem pfx_hit {kw : List ByteArray} {ids : List Int} {s : ByteArray} {t : Nat} (h : s.extract 0 (t + 1) ∈ kw) : pfx kw ids s (t + 1) = pfx kw ids s t ++ [(idOf kw ids (s.extract 0 (t + 1)), (t : Int) + 1)] := by
  unfold pfx
  rw [List.range_succ, List.filterMap_append]
  simp [h]
theorem pfx_miss {kw : List ByteArray} {ids : List Int} {s : ByteArray} {t : Nat} (h : s.extract 0 (t + 1) ∉ kw) : pfx kw ids s (t + 1) = pfx kw ids s t := by
  unfold pfx
  rw [List.range_succ, List.filterMap_append]
  simp [h]
theorem pfx_stop {kw : List ByteArray} {ids : List Int} {s : ByteArray} {t : Nat} (h : ¬ ∃ u ∈ kw, pre s (t + 1) u) : ∀ n, t + n ≤ s.size → pfx kw ids s (t + n) = pfx kw ids s t := by
  intro n
  induction n with
  | zero => intro _; rfl
  | succ n ih =>
    intro hn
    rw [show t + (n + 1) = t + n + 1 by omega, pfx_miss, ih (by omega)]
    intro hm
    obtain ⟨h1, _⟩ := (pre_whole s (t + n + 1) (by omega) _).2 rfl
    exact h ⟨_, hm, h1.shorter (by omega)⟩
/-- What one round finds. -/
inductive Round (kw : List ByteArray) (ids : List Int) (m : Nat) (B C : Nat → Int) (s : ByteArray) (j p c base : Nat) : Prop where
  | far (h : m ≤ base + c) (e : pfx kw ids s s.size = pfx kw ids s j) : Round kw ids m B C s j p c base
  | other (h : base + c < m) (cv : Int) (h1 : C (base + c) = cv) (h2 : cv ≠ (p : Int)) (h3 : -60000 ≤ cv ∧ cv ≤ 60000) (e : pfx kw ids s s.size = pfx kw ids s j) : Round kw ids m B C s j p c base
  | hit (h : base + c < m) (h1 : C (base + c) = (p : Int)) (on : On kw ids m B C s (j + 1) (base + c)) (b2 : Nat) (h2 : B (base + c) = (b2 : Int)) (h3 : b2 < m) (h4 : C b2 = ((base + c : Nat) : Int)) (y : Int) (h5 : B b2 = -y) (h6 : 0 ≤ y ∧ y ≤ 1100000) (e : pfx kw ids s (j + 1) = pfx kw ids s j ++ [(y, (j : Int) + 1)]) : Round kw ids m B C s j p c base
  | end1 (h : base + c < m) (h1 : C (base + c) = (p : Int)) (on : On kw ids m B C s (j + 1) (base + c)) (b2 : Nat) (h2 : B (base + c) = (b2 : Int)) (h3 : m ≤ b2) (h4 : b2 < 60000) (e : pfx kw ids s (j + 1) = pfx kw ids s j) : Round kw ids m B C s j p c base
  | end2 (h : base + c < m) (h1 : C (base + c) = (p : Int)) (on : On kw ids m B C s (j + 1) (base + c)) (b2 : Nat) (h2 : B (base + c) = (b2 : Int)) (h3 : b2 < m) (cv : Int) (h4 : C b2 = cv) (h5 : cv ≠ ((base + c : Nat) : Int)) (h6 : -60000 ≤ cv ∧ cv ≤ 60000) (e : pfx kw ids s (j + 1) = pfx kw ids s j) : Round kw ids m B C s j p c base
theorem On.round {kw : List ByteArray} {ids : List Int} {m : Nat} {B C : Nat → Int} {s : ByteArray} {j p : Nat} (hT : TrieOk kw ids m B C) (h : On kw ids m B C s j p) (hj : j < s.size) (hz : (s.get! j).toNat ≠ 0) :
    ∃ base c : Nat, B p = (base : Int) ∧ 1 ≤ base ∧ base < 60000 ∧ (s[j]'hj).toNat = c ∧ 0 < c ∧ c < 256 ∧ Round kw ids m B C s j p c base := by
  obtain ⟨c, hc⟩ : ∃ c, c = (s.get! j).toNat := ⟨_, rfl⟩
  have hch : chAt s j = c := by unfold chAt; rw [if_pos hj, hc]
  obtain ⟨base, e1, e2, e3, e4, e5⟩ := h.step (by rw [hch, hc]; exact hz)
  rw [hch] at e4 e5
  have hcs : (s[j]'hj).toNat = c := by rw [hc]; show _ = (s.data[j]!).toNat; rw [getElem!_pos s.data j hj]; rfl
  have hc255 : c < 256 := by rw [← hcs]; exact UInt8.toNat_lt _
  refine ⟨base, c, e1, e2, e3, hcs, by omega, hc255, ?_⟩
  have hstop : (¬ ∃ u ∈ kw, pre s (j + 1) u) → pfx kw ids s s.size = pfx kw ids s j := fun g => by
    have := pfx_stop (ids := ids) g (s.size - j) (by omega)
    rwa [show j + (s.size - j) = s.size by omega] at this
  by_cases hu : ∃ u ∈ kw, pre s (j + 1) u
  · obtain ⟨g1, g2, g3⟩ := e4 hu
    obtain ⟨b2, f1, f2, f3, f4, f5⟩ := g3.term (by omega)
    by_cases hm : s.extract 0 (j + 1) ∈ kw
    · obtain ⟨k1, k2, k3, k4, k5⟩ := f4 hm
      exact .hit g1 g2 g3 b2 f1 k1 k2 _ k3 ⟨k4, k5⟩ (pfx_hit hm)
    · by_cases hb : b2 < m
      · exact .end2 g1 g2 g3 b2 f1 hb _ rfl (fun q => f5 hm ⟨hb, q⟩) (hT.cb _ hb) (pfx_miss hm)
      · exact .end1 g1 g2 g3 b2 f1 (by omega) f3 (pfx_miss hm)
  · have hno := e5 hu
    by_cases hb : base + c < m
    · exact .other hb _ rfl (fun q => hno ⟨hb, q⟩) (hT.cb _ hb) (hstop hu)
    · exact .far (by omega) (hstop hu)
end Go.Proofs.Ytddcjmdcpkmnjab.Da
namespace Go.Proofs.Ytddcjmdcpkmnjab.Gn
/-- Two rows of their own above w. -/
structure Two (e : Nat) (w wr : World) (va vb : Value) (la lb : List Value) : Prop where
  a : ORow wr e va la
  b : ORow wr e vb lb
  chg : Chg [] w wr
  na : ∀ g, va.ownBlock = some g → w.heap.size ≤ g
  nb : ∀ g, vb.ownBlock = some g → w.heap.size ≤ g
  ne : ∀ g, va.ownBlock = some g → vb.ownBlock ≠ some g
theorem Two.start (e : Nat) (w : World) : Two e w w (.slice none 0 0) (.slice none 0 0) [] [] :=
  ⟨ORow.nil _ _, ORow.nil _ _, Chg.refl _ _, fun g h => (by cases h), fun g h => (by cases h), fun g h => (by cases h)⟩
theorem Two.symm {e : Nat} {w wr : World} {va vb : Value} {la lb : List Value} (h : Two e w wr va vb la lb) : Two e w wr vb va lb la :=
  ⟨h.b, h.a, h.chg, h.nb, h.na, fun g h1 h2 => h.ne g h2 h1⟩
theorem Two.drew {e : Nat} {w wr : World} {va vb : Value} {la lb : List Value} (h : Two e w wr va vb la lb) : Two e w wr.drew va vb la lb :=
  ⟨h.a.chg ((Chg.refl [] _).drew) (by simp), h.b.chg ((Chg.refl [] _).drew) (by simp), h.chg.drew, h.na, h.nb, h.ne⟩
theorem Two.app {e : Nat} {w wr w1 : World} {va vb va' : Value} {la lb la' : List Value} {o : Obj} (h : Two e w wr va vb la lb) (h1 : ORow w1 e va' la') (hc : Chg va.ownBlock.toList (wr.alloc o) w1) (ho : va'.ownBlock = va.ownBlock ∨ va'.ownBlock = some (wr.alloc o).heap.size) : Two e w w1 va' vb la' lb := by
  have hcw : Chg va.ownBlock.toList wr w1 := ((Chg.refl _ wr).alloc o).trans hc
  refine ⟨h1, h.b.chg hcw (fun g hg hm => ?_), h.chg.above hcw (fun g hg => .inr (h.na g (by simpa using hg))), fun g hg => ?_, h.nb, fun g hg hg2 => ?_⟩
  · exact h.ne g (by simpa using hm) hg
  · rcases ho with q | q
    · exact h.na g (by rw [← q]; exact hg)
    · rw [hg] at q
      injection q with q
      rw [size_alloc] at q
      have := h.chg.size
      omega
  · rcases ho with q | q
    · exact h.ne g (by rw [← q]; exact hg) hg2
    · rw [hg] at q
      injection q with q
      rw [size_alloc] at q
      have := (h.b.block hg2).1
      omega
end Go.Proofs.Ytddcjmdcpkmnjab.Gn
namespace Go.Proofs.Ytddcjmdcpkmnjab.Da
open Go.RowKit Go.Proofs.YtddcjmdcpkmnjabW.PrintWords Go.Proofs.Ytddcjmdcpkmnjab.Gn
theorem pfx_len (kw : List ByteArray) (ids : List Int) (s : ByteArray) (n : Nat) : (pfx kw ids s n).length ≤ n := by
  unfold pfx
  refine Nat.le_trans (List.length_filterMap_le _ _) ?_
  rw [List.length_range]
  exact Nat.le_refl _
/-- The cells of a double array. -/
def DaRow (w : World) (b m : Nat) (B C : Nat → Int) : Prop := w.heap[b]? = some (.cells (row m B C) 70 (0, 0))
theorem DaRow.lt {w : World} {b m : Nat} {B C : Nat → Int} (h : DaRow w b m B C) : b < w.heap.size := (Array.getElem?_eq_some_iff.1 h).1
theorem DaRow.chg {w w' : World} {b m : Nat} {B C : Nat → Int} (h : DaRow w b m B C) (hc : Chg [] w w') : DaRow w' b m B C := (hc.block b h.lt (by simp)).trans h
theorem DaRow.base {w : World} {b m : Nat} {B C : Nat → Int} (h : DaRow w b m B C) (p : Nat) (hp : p < m) : w.cell? ⟨b, p * 2, none⟩ = some (.int .i32 (B p)) := (At.base (Built.at h) p hp |> fun q => by
  unfold DaRow at h
  have : (row m B C)[p * 2]? = some (.int .i32 (B p)) := by
    rw [row_get, if_pos (by omega), if_pos (by omega), show p * 2 / 2 = p by omega]
  simp [World.cell?, h, this])
theorem DaRow.check {w : World} {b m : Nat} {B C : Nat → Int} (h : DaRow w b m B C) (p : Nat) (hp : p < m) : w.cell? ⟨b, p * 2 + 1, none⟩ = some (.int .i32 (C p)) := by
  unfold DaRow at h
  have : (row m B C)[p * 2 + 1]? = some (.int .i32 (C p)) := by
    rw [row_get, if_pos (by omega), if_neg (by omega), show (p * 2 + 1) / 2 = p by omega]
  simp [World.cell?, h, this]
def fsts (l : List (Int × Int)) : List Value := l.map fun x => .int .i64 x.1
def snds (l : List (Int × Int)) : List Value := l.map fun x => .int .i64 x.2
theorem fsts_app (l : List (Int × Int)) (x y : Int) : fsts (l ++ [(x, y)]) = fsts l ++ [.int .i64 x] := by simp [fsts]
theorem snds_app (l : List (Int × Int)) (x y : Int) : snds (l ++ [(x, y)]) = snds l ++ [.int .i64 y] := by simp [snds]
def CpPost (kw : List ByteArray) (ids : List Int) (s : ByteArray) (w : World) (e : Ending) (w' : World) : Prop :=
  ∃ va vb, e = .returned (.tuple #[va, vb]) ∧ Two 3 w w' va vb (fsts (pfx kw ids s s.size)) (snds (pfx kw ids s s.size))
set_option maxHeartbeats 2000000 in
set_option maxRecDepth 100000 in
theorem cps_calls (w : World) (b m : Nat) (B C : Nat → Int) (kw : List ByteArray) (ids : List Int) (s : ByteArray) (h : DaRow w b m B C) (hm : m ≤ 60000) (hT : TrieOk kw ids m B C) (hs : s.size ≤ 1000) (hnz : ∀ j, j < s.size → (s.get! j).toNat ≠ 0) :
    Calls Try.prog 30 #[.slice (some ⟨b, 0, none⟩) m m, .string s] w (CpPost kw ids s w) := by
  have HR := Aside0.mk h
  have HT := Aside0.mk hT
  have HNZ := Aside0.mk hnz
  clear h hT hnz
  go_enter Try.func30, Try.ntmps30
  go_wp2_with fail
  go_loopw [4, 5, 7, 9] (fun v4 v5 v7 v9 wr => ∃ j p : Nat, v9 = .int .i64 j ∧ v7 = .int .i64 p ∧ Aside0 (j ≤ s.size) ∧ Aside0 (On kw ids m B C s j p) ∧ Aside0 (Two 3 w wr v4 v5 (fsts (pfx kw ids s j)) (snds (pfx kw ids s j)))) (fun _ _ _ v9 _ => s.size - (intOf v9).toNat)
  case atStart => exact ⟨0, 0, rfl, rfl, ⟨Nat.zero_le _⟩, ⟨On.start HT.out s⟩, ⟨Two.start _ w⟩⟩
  case round =>
    obtain ⟨j, p, rfl, rfl, HJ, HO, H2⟩ := hrel
    have HA := Aside0.mk (HR.out.chg H2.out.chg)
    obtain ⟨A4, c4, e4, hl4, _⟩ := H2.out.a.slice
    obtain ⟨A5, c5, e5, hl5, _⟩ := H2.out.b.slice
    obtain ⟨n4, hn4⟩ : ∃ n4, n4 = (fsts (pfx kw ids s j)).length := ⟨_, rfl⟩
    obtain ⟨n5, hn5⟩ : ∃ n5, n5 = (snds (pfx kw ids s j)).length := ⟨_, rfl⟩
    have hpl := pfx_len kw ids s j
    have hb4 : n4 ≤ j := by rw [hn4]; unfold fsts; rw [List.length_map]; exact hpl
    have hb5 : n5 ≤ j := by rw [hn5]; unfold snds; rw [List.length_map]; exact hpl
    rw [← hn4] at e4 hl4
    rw [← hn5] at e5 hl5
    subst e4 e5
    have HN4 := Aside0.mk hn4
    have HN5 := Aside0.mk hn5
    clear hpl hn4 hn5
    by_cases hlt : j < s.size
    · have hp := HO.out.lt
      obtain ⟨base, c, e1, e2, e3, hcs, hc0, hc255, hR⟩ := HO.out.round HT.out hlt (HNZ.out j hlt)
      have d2 := HA.out.base p hp
      rw [e1] at d2
      have k1 : ((c:Int) == 0) = false := beq_eq_false_iff_ne.2 (by omega)
      have k2 : (c == 0) = false := beq_eq_false_iff_ne.2 (by omega)
      have r1 : decide ((0:Int) ≤ (p:Int)) = true := decide_eq_true (by omega)
      have r2 : decide ((p:Int) < (m:Int)) = true := decide_eq_true (by omega)
      have r3 : (p:Int) < (m:Int) := by omega
      have r4 : (0:Int) ≤ (p:Int) := by omega
      have r5 : (j:Int) < (s.size:Int) := by omega
      have r6 : (0:Int) ≤ (j:Int) := by omega
      clear e1
      cases hR with
      | far h e =>
        go_wp2_with fail
        refine still_tail 11 (by kernel_rfl) (by kernel_rfl) ?_
        intro w2 e2
        have H22 : Aside0 (Two 3 w w2 (.slice A4 n4 c4) (.slice A5 n5 c5) (fsts (pfx kw ids s s.size)) (snds (pfx kw ids s s.size))) := ⟨by rw [e2, e]; exact H2.out.drew⟩
        rw [show wr.cell? = w2.cell? by rw [e2]; rfl] at d2
        clear e2 e
        simp only [List.take_succ_cons, List.take_zero, List.drop_succ_cons, List.drop_zero]
        repeat still_step
        refine wpStill_nil ?_
        go_wp2_with fail
        go_ret2
        exact ⟨_, _, rfl, H22.out⟩
      | other h cv h1 h2 h3 e =>
        have d3 := HA.out.check (base + c) h
        rw [h1] at d3
        have n1 : (cv != (p:Int)) = true := bne_iff_ne.2 h2
        have n2 : (cv == (p:Int)) = false := beq_eq_false_iff_ne.2 h2
        have hw : wrap64 cv = cv := by unfold wrap64; omega
        have HE := Aside0.mk e
        clear h1 h2 h3 e
        go_wp2_with fail
        refine still_tail 11 (by kernel_rfl) (by kernel_rfl) ?_
        intro w2 e2
        have H22 : Aside0 (Two 3 w w2 (.slice A4 n4 c4) (.slice A5 n5 c5) (fsts (pfx kw ids s j)) (snds (pfx kw ids s j))) := ⟨by rw [e2]; exact H2.out.drew⟩
        rw [show wr.cell? = w2.cell? by rw [e2]; rfl] at d2 d3
        clear e2
        simp only [List.take_succ_cons, List.take_zero, List.drop_succ_cons, List.drop_zero]
        repeat still_step
        refine wpStill_nil ?_
        go_wp2_with fail
        go_ret2
        exact ⟨_, _, rfl, by rw [HE.out]; exact H22.out⟩
      | hit h h1 on b2 h2 h3 h4 y h5 h6 e =>
        have d3 := HA.out.check (base + c) h
        rw [h1] at d3
        have d4 := HA.out.base (base + c) h
        rw [h2] at d4
        have HON := Aside0.mk on
        have HE := Aside0.mk e
        have d5 := HA.out.check b2 h3
        rw [h4, Int.natCast_add] at d5
        have d6 := HA.out.base b2 h3
        rw [h5] at d6
        obtain ⟨y0, y1⟩ := h6
        have k3 : decide (-y ≤ 0) = true := decide_eq_true (by omega)
        have k4 : -y ≤ 0 := by omega
        clear h1 h2 h4 h5 on e
        go_wp2_with fail
        refine still_tail 11 (by kernel_rfl) (by kernel_rfl) ?_
        intro w2 e2
        have H22 : Aside0 (Two 3 w w2 (.slice A4 n4 c4) (.slice A5 n5 c5) (fsts (pfx kw ids s j)) (snds (pfx kw ids s j))) := ⟨by rw [e2]; exact H2.out.drew⟩
        rw [show wr.cell? = w2.cell? by rw [e2]; rfl] at d2 d3 d4 d5 d6
        clear e2
        simp only [List.take_succ_cons, List.take_zero, List.drop_succ_cons, List.drop_zero]
        repeat still_step
        refine wpStill_nil ?_
        go_wp2_with (first | (at_builtin; refine wpList_append1 rfl _ _ 23 rfl 3 (.int .i64 0) 8 Try.underlying23 info3 rfl (.slice A4 n4 c4) (fsts (pfx kw ids s j)) rfl (H22.out.a.chg ((Chg.refl [] w2).alloc _) (fun _ _ => by simp)) w2.heap.size (.int .i64 y) rfl (cell_box w2 _ _) rfl ?s1 ?s2 ?_; (case s1 => (rw [← HN4.out]; omega)); (case s2 => (rw [← HN4.out]; unfold maxLen; omega)); intro v4 w3 hr3 hc3 ho3; have H23 := Aside0.mk (H22.out.app hr3 hc3 ho3); clear hr3 hc3 ho3 H22) | (at_builtin; refine wpList_append1 rfl _ _ 23 rfl 3 (.int .i64 0) 8 Try.underlying23 info3 rfl (.slice A5 n5 c5) (snds (pfx kw ids s j)) rfl (H23.out.b.chg ((Chg.refl [] w3).alloc _) (fun _ _ => by simp)) w3.heap.size (.int .i64 ((j:Int) + 1)) rfl (cell_box w3 _ _) rfl ?s1 ?s2 ?_; (case s1 => (rw [← HN5.out]; omega)); (case s2 => (rw [← HN5.out]; unfold maxLen; omega)); intro v5 w4 hr4 hc4 ho4; have H24 := Aside0.mk (H23.out.symm.app hr4 hc4 ho4).symm; clear hr4 hc4 ho4 H23))
        go_roundw
        case rel => exact ⟨j + 1, base + c, by go_num, by go_num, ⟨by omega⟩, HON, ⟨by rw [HE.out, fsts_app, snds_app]; exact H24.out⟩⟩
        case measure => simp [intOf]; omega
      | end1 h h1 on b2 h2 h3 h4 e =>
        have d3 := HA.out.check (base + c) h
        rw [h1] at d3
        have d4 := HA.out.base (base + c) h
        rw [h2] at d4
        have HON := Aside0.mk on
        have HE := Aside0.mk e
        clear h1 h2 on e
        go_wp2_with fail
        refine still_tail 11 (by kernel_rfl) (by kernel_rfl) ?_
        intro w2 e2
        have H22 : Aside0 (Two 3 w w2 (.slice A4 n4 c4) (.slice A5 n5 c5) (fsts (pfx kw ids s j)) (snds (pfx kw ids s j))) := ⟨by rw [e2]; exact H2.out.drew⟩
        rw [show wr.cell? = w2.cell? by rw [e2]; rfl] at d2 d3 d4
        clear e2
        simp only [List.take_succ_cons, List.take_zero, List.drop_succ_cons, List.drop_zero]
        repeat still_step
        refine wpStill_nil ?_
        go_wp2_with fail
        go_roundw
        case rel => exact ⟨j + 1, base + c, by go_num, by go_num, ⟨by omega⟩, HON, ⟨by rw [HE.out]; exact H22.out⟩⟩
        case measure => simp [intOf]; omega
      | end2 h h1 on b2 h2 h3 cv h4 h5 h6 e =>
        have d3 := HA.out.check (base + c) h
        rw [h1] at d3
        have d4 := HA.out.base (base + c) h
        rw [h2] at d4
        have HON := Aside0.mk on
        have HE := Aside0.mk e
        have d5 := HA.out.check b2 h3
        rw [h4] at d5
        rw [Int.natCast_add] at h5
        have n1 : (cv == (base:Int) + (c:Int)) = false := beq_eq_false_iff_ne.2 h5
        have hw : wrap64 cv = cv := by unfold wrap64; omega
        clear h1 h2 h4 h5 h6 on e
        go_wp2_with fail
        refine still_tail 11 (by kernel_rfl) (by kernel_rfl) ?_
        intro w2 e2
        have H22 : Aside0 (Two 3 w w2 (.slice A4 n4 c4) (.slice A5 n5 c5) (fsts (pfx kw ids s j)) (snds (pfx kw ids s j))) := ⟨by rw [e2]; exact H2.out.drew⟩
        rw [show wr.cell? = w2.cell? by rw [e2]; rfl] at d2 d3 d4 d5
        clear e2
        simp only [List.take_succ_cons, List.take_zero, List.drop_succ_cons, List.drop_zero]
        repeat still_step
        refine wpStill_nil ?_
        go_wp2_with fail
        go_roundw
        case rel => exact ⟨j + 1, base + c, by go_num, by go_num, ⟨by omega⟩, HON, ⟨by rw [HE.out]; exact H22.out⟩⟩
        case measure => simp [intOf]; omega
    · have hj : j = s.size := by have := HJ.out; omega
      have H22 := H2.out
      rw [hj] at H22
      have H23 := Aside0.mk H22
      have k1 : decide (j < s.size) = false := decide_eq_false hlt
      have k2 : decide ((j:Int) < (s.size:Int)) = false := decide_eq_false (by omega)
      clear hj H22
      go_wp2_with fail
      go_ret2
      exact ⟨_, _, rfl, H23.out⟩
end Go.Proofs.Ytddcjmdcpkmnjab.Da
namespace Go.Proofs.Ytddcjmdcpkmnjab.Gn
theorem Two.lift {e : Nat} {w w2 w3 w6 : World} {va vb : Value} {la lb : List Value} {S : List Nat} (h : Two e w2 w3 va vb la lb) (hc : Chg [] w w2) (hS : ∀ g ∈ S, g < w2.heap.size) (h6 : Chg S w3 w6) (hw : Chg [] w w6) : Two e w w6 va vb la lb :=
  ⟨h.a.chg h6 (fun g hg hm => by have := h.na g hg; have := hS g hm; omega), h.b.chg h6 (fun g hg hm => by have := h.nb g hg; have := hS g hm; omega), hw, fun g hg => Nat.le_trans hc.size (h.na g hg), fun g hg => Nat.le_trans hc.size (h.nb g hg), h.ne⟩
end Go.Proofs.Ytddcjmdcpkmnjab.Gn
namespace Go.Proofs.Ytddcjmdcpkmnjab.Da
open Go.RowKit Go.Proofs.YtddcjmdcpkmnjabW.PrintWords Go.Proofs.Ytddcjmdcpkmnjab.Gn
theorem triePrefixes_idle (p q r : Value) (w : World) :
    CallsD Try.prog 29 #[p, q, r] .returning w fun e u' w' => e = .returned (.tuple #[]) ∧ u' = .returning ∧ w' = w := by
  refine callsD_of_wpS Try.func29 rfl fun c₀ cs hu => ?_
  apply wpS_seq
  apply wpS_region
  simp [wpOpsS, go_sem, recoverD, hu, Try.ntmps29, Exit.thenS]
  refine wpS_cond (t := false) (by simp [Act.eval, Array.replicate]) ?_
  simp only [Bool.false_eq_true, if_false]
  refine wpS_of_wp (wp_skip ?_)
  cases c₀
  simp_all [bodyPostS, results, Try.results29]
def PxPost (kw : List ByteArray) (ids : List Int) (s : ByteArray) (w : World) (e : Ending) (w' : World) : Prop :=
  ∃ va vb, e = .returned (.tuple #[va, vb, .bool true]) ∧ Two 3 w w' va vb (fsts (pfx kw ids s s.size)) (snds (pfx kw ids s s.size))
set_option maxHeartbeats 2000000 in
set_option maxRecDepth 100000 in
theorem triePrefixes_calls (w : World) (A0 A1 : Option Addr) (c0 c1 : Nat) (kw : List ByteArray) (ids : List Int) (s : ByteArray) (hk : Kd.C Kd.string w A0 kw.length kw) (hi : Kd.C (Kd.int .i64) w A1 ids.length ids) (hg : goodB kw (idsOr kw ids)) (hs : textB s) :
    Calls Try.prog 12 #[.slice A0 kw.length c0, .slice A1 ids.length c1, .string s] w (PxPost kw (idsOr kw ids) s w) := by
  have hmf : ∀ (fn : Fn) (first cap : Array Value) (w : World), (Instr.makeFunc fn first cap).run Try.prog w = .ok (.func fn first cap) w := fun _ _ _ _ => rfl
  obtain ⟨v1, v2, v3, hc, hsz⟩ := three_vars w (.slice none 0 0) (.slice none 0 0) (.bool false) 23 23 4
  have hb := built_calls _ A0 A1 c0 c1 kw ids (Kd.C_below hk (hc.toBelow (Nat.le_refl _) (by simp))) (Kd.C_below hi (hc.toBelow (Nat.le_refl _) (by simp))) hg.good
  have HB := Aside0.mk hb
  have V1 := Aside0.mk v1
  have V2 := Aside0.mk v2
  have V3 := Aside0.mk v3
  have HC := Aside0.mk hc
  have HSZ := Aside0.mk hsz
  have HS := Aside0.mk hs
  clear hb v1 v2 v3 hc hsz hk hi hg hs
  go_enter_defers Try.func12, Try.ntmps12
  go_wp2_with fail
  generalize ((w.alloc (.cells #[.slice none 0 0] 23)).alloc (.cells #[.slice none 0 0] 23)).alloc (.cells #[.bool false] 4) = w0 at *
  refine HB.out.mono ?_
  rintro e w2 ⟨v, rfl, b, m, B, C, rfl, hrow, hbw, hm, hT, hc2⟩
  have hz2 : w.heap.size + 3 ≤ w2.heap.size := by have := hc2.size; have := HSZ.out; omega
  have hf := cps_calls w2 b m B C kw (idsOr kw ids) s hrow hm hT HS.out.1 HS.out.2
  have HF := Aside0.mk hf
  have HC2 : Aside0 (Chg [] w w2) := ⟨HC.out.above hc2 (by simp)⟩
  have V1' := Aside0.mk (V1.out.chg hc2 (by simp))
  have V2' := Aside0.mk (V2.out.chg hc2 (by simp))
  have V3' := Aside0.mk (V3.out.chg hc2 (by simp))
  clear hrow hbw hm hT hc2 hf HB V1 V2 V3 HC
  go_wp2_with fail
  refine HF.out.mono ?_
  rintro e w3 ⟨va, vb, rfl, h2⟩
  obtain ⟨A4, c4, e4, _⟩ := h2.a.slice
  obtain ⟨A5, c5, e5, _⟩ := h2.b.slice
  obtain ⟨n4, HN4⟩ : ∃ n4, n4 = (fsts (pfx kw (idsOr kw ids) s s.size)).length := ⟨_, rfl⟩
  obtain ⟨n5, HN5⟩ : ∃ n5, n5 = (snds (pfx kw (idsOr kw ids) s s.size)).length := ⟨_, rfl⟩
  rw [← HN4] at e4
  rw [← HN5] at e5
  subst e4 e5
  clear HN4 HN5
  have hc3 := h2.chg
  have HC3 : Aside0 (Chg [] w w3) := ⟨HC2.out.above hc3 (by simp)⟩
  have V1 := Aside0.mk (V1'.out.chg hc3 (by simp))
  have V2 := Aside0.mk (V2'.out.chg hc3 (by simp))
  have V3 := Aside0.mk (V3'.out.chg hc3 (by simp))
  have H2 := Aside0.mk h2
  have HZ2 : Aside0 (w.heap.size + 3 ≤ w2.heap.size) := ⟨hz2⟩
  have d1 := V1.out.cell
  have d2 := V2.out.cell
  have f1 := V1.out.frozen 0 none
  have f2 := V2.out.frozen 0 none
  have hn : w.heap.size ≠ w.heap.size + 1 := by omega
  have hn' : w.heap.size + 1 ≠ w.heap.size := by omega
  clear hc3 h2 HF V1' V2' V3'
  go_wp2_with fail
  have V1x : Aside0 (Var ((w3.setCell ⟨w.heap.size, 0, none⟩ (.slice A4 n4 c4)).setCell ⟨w.heap.size + 1, 0, none⟩ (.slice A5 n5 c5)) w.heap.size 23 (.slice A4 n4 c4)) := ⟨(V1.out.set _).setOther (by show w.heap.size ≠ w.heap.size + 1; omega) _⟩
  have V2x : Aside0 (Var ((w3.setCell ⟨w.heap.size, 0, none⟩ (.slice A4 n4 c4)).setCell ⟨w.heap.size + 1, 0, none⟩ (.slice A5 n5 c5)) (w.heap.size + 1) 23 (.slice A5 n5 c5)) := ⟨(V2.out.setOther (by show w.heap.size + 1 ≠ w.heap.size; omega) _).set _⟩
  have V3x : Aside0 (Var ((w3.setCell ⟨w.heap.size, 0, none⟩ (.slice A4 n4 c4)).setCell ⟨w.heap.size + 1, 0, none⟩ (.slice A5 n5 c5)) (w.heap.size + 1 + 1) 4 (.bool false)) := ⟨(V3.out.setOther (by show w.heap.size + 1 + 1 ≠ w.heap.size; omega) _).setOther (by show w.heap.size + 1 + 1 ≠ w.heap.size + 1; omega) _⟩
  have HC4 : Aside0 (Chg [] w ((w3.setCell ⟨w.heap.size, 0, none⟩ (.slice A4 n4 c4)).setCell ⟨w.heap.size + 1, 0, none⟩ (.slice A5 n5 c5))) := ⟨(HC3.out.setCell (.inr (Nat.le_refl _)) _).setCell (.inr (by show w.heap.size ≤ w.heap.size + 1; omega)) _⟩
  have HK4 : Aside0 (Chg [w.heap.size, w.heap.size + 1, w.heap.size + 1 + 1] w3 ((w3.setCell ⟨w.heap.size, 0, none⟩ (.slice A4 n4 c4)).setCell ⟨w.heap.size + 1, 0, none⟩ (.slice A5 n5 c5))) := ⟨((Chg.refl _ w3).setCell (.inl (by simp)) _).setCell (.inl (by simp)) _⟩
  clear V1 V2 V3 HC3 d1 d2 f1 f2
  generalize (w3.setCell ⟨w.heap.size, 0, none⟩ (.slice A4 n4 c4)).setCell ⟨w.heap.size + 1, 0, none⟩ (.slice A5 n5 c5) = w4 at *
  have d1 := V1x.out.cell
  have d2 := V2x.out.cell
  have d3 := V3x.out.cell
  have f1 := V1x.out.frozen 0 none
  have f2 := V2x.out.frozen 0 none
  have f3 := V3x.out.frozen 0 none
  have hn2 : w.heap.size + 1 + 1 ≠ w.heap.size := by omega
  have hn3 : w.heap.size + 1 + 1 ≠ w.heap.size + 1 := by omega
  have hn4 : w.heap.size ≠ w.heap.size + 1 + 1 := by omega
  have hn5 : w.heap.size + 1 ≠ w.heap.size + 1 + 1 := by omega
  go_region_held3 (fun w' => w'.cell? ⟨w.heap.size, 0, none⟩ = some (.slice A4 n4 c4) ∧ w'.cell? ⟨w.heap.size + 1, 0, none⟩ = some (.slice A5 n5 c5)) (first | (refine ⟨?_, ?_⟩ <;> (refine keep_cell_d ?_ (by simp)) <;> repeat (first | assumption | refine keep_cell ?_ (by simp))) | go_keep | assumption) (fail)
  all_goals go_wp2_with fail
  all_goals refine leaves_cons (f := 29) (args := #[.pointer (some ⟨w.heap.size, 0, none⟩), .pointer (some ⟨w.heap.size + 1, 0, none⟩), .pointer (some ⟨w.heap.size + 1 + 1, 0, none⟩)]) (by simp) (by simp [go_sem]) ?_
  all_goals refine (triePrefixes_idle _ _ _ _).mono ?_
  all_goals rintro e u' w5 ⟨rfl, rfl, rfl⟩
  all_goals refine ⟨.tuple #[.slice A4 n4 c4, .slice A5 n5 c5, .bool true], ?_, .slice A4 n4 c4, .slice A5 n5 c5, rfl, H2.out.lift HC2.out (by have := HZ2.out; simp only [List.mem_cons, List.not_mem_nil, or_false]; rintro g (rfl | rfl | rfl) <;> omega) (((HK4.out.setCell (.inl (by simp)) _).setCell (.inl (by simp)) _).setCell (.inl (by simp)) _).drew ?_⟩
  · have e1 := keep_cell (a := ⟨w.heap.size + 1 + 1, 0, none⟩) (y := .bool true) (keep_cell (a := ⟨w.heap.size + 1, 0, none⟩) (y := .slice A5 n5 c5) (keep_cell (a := ⟨w.heap.size, 0, none⟩) (y := .slice A4 n4 c4) d1 (fun _ => rfl)) (by simp)) (by simp)
    have e2 := keep_cell (a := ⟨w.heap.size + 1 + 1, 0, none⟩) (y := .bool true) (keep_cell (a := ⟨w.heap.size + 1, 0, none⟩) (y := .slice A5 n5 c5) (keep_cell (a := ⟨w.heap.size, 0, none⟩) (y := .slice A4 n4 c4) d2 (by simp)) (fun _ => rfl)) (by simp)
    have e3 := World.cell?_setCell_same ((w4.setCell ⟨w.heap.size, 0, none⟩ (.slice A4 n4 c4)).setCell ⟨w.heap.size + 1, 0, none⟩ (.slice A5 n5 c5)) ⟨w.heap.size + 1 + 1, 0, none⟩ (.bool true) (keep_cell (a := ⟨w.heap.size + 1, 0, none⟩) (y := .slice A5 n5 c5) (keep_cell (a := ⟨w.heap.size, 0, none⟩) (y := .slice A4 n4 c4) d3 (by simp)) (by simp))
    generalize ((w4.setCell ⟨w.heap.size, 0, none⟩ (.slice A4 n4 c4)).setCell ⟨w.heap.size + 1, 0, none⟩ (.slice A5 n5 c5)).setCell ⟨w.heap.size + 1 + 1, 0, none⟩ (.bool true) = w6 at *
    simp [results, Try.results12, go_sem, e1, e2, e3]
  · exact (((HC4.out.setCell (.inr (Nat.le_refl _)) _).setCell (.inr (by show w.heap.size ≤ w.heap.size + 1; omega)) _).setCell (.inr (by show w.heap.size ≤ w.heap.size + 1 + 1; omega)) _).drew
end Go.Proofs.Ytddcjmdcpkmnjab.Da
namespace Go.Proofs.Ytddcjmdcpkmnjab.P
open Go.RowKit Go.Proofs.YtddcjmdcpkmnjabW.PrintWords Go.Proofs.YtddcjmdcpkmnjabW.PrintLast Go.Proofs.YtddcjmdcpkmnjabW.PrintMore Go.Proofs.Ytddcjmdcpkmnjab.Gn Go.Proofs.Ytddcjmdcpkmnjab.Da
def impl_TriePrefixes.f (l0 : List ByteArray) (l1 : List Int) (s : ByteArray) : Option (List Int × List Int × Bool) :=
  if goodB l0 (idsOr l0 l1) ∧ textB s then some ((pfx l0 (idsOr l0 l1) s s.size).map (·.1), (pfx l0 (idsOr l0 l1) s s.size).map (·.2), true) else none
theorem impl_TriePrefixes.calls (A0 : Option Addr) (c0 : Nat) (l0 : List ByteArray) (A1 : Option Addr) (c1 : Nat) (l1 : List Int) (s : ByteArray) (r1 r2 : List Int) (r3 : Bool) (w : World) (hr0 : Kd.C Kd.string w A0 l0.length l0) (hc0 : l0.length ≤ c0) (hr1 : Kd.C (Kd.int .i64) w A1 l1.length l1) (hc1 : l1.length ≤ c1) (h : impl_TriePrefixes.f l0 l1 s = some (r1, r2, r3)) :
    Calls Try.prog 12 #[.slice A0 l0.length c0, .slice A1 l1.length c1, .string s] w fun e w' => ∃ v0_ v1_ : Value, e = .returned (.tuple #[v0_, v1_, .bool r3]) ∧ Kd.R (Kd.int .i64) 3 w' w.heap.size (fun k_ => some k_ ≠ (v1_ : Value).ownBlock) v0_ r1 ∧ Kd.R (Kd.int .i64) 3 w' w.heap.size (fun k_ => some k_ ≠ (v0_ : Value).ownBlock) v1_ r2 ∧ Below w.heap.size w w' := by
  unfold impl_TriePrefixes.f at h
  split at h
  case isFalse => cases h
  rename_i hok
  injection h with h
  simp only [Prod.mk.injEq] at h
  obtain ⟨rfl, rfl, rfl⟩ := h
  refine (triePrefixes_calls w A0 A1 c0 c1 l0 l1 s hr0 hr1 hok.1 hok.2).mono ?_
  rintro e w' ⟨va, vb, rfl, h2⟩
  refine ⟨va, vb, rfl, R_of_row (enc := Value.int .i64) ?_ (fun g hg => ⟨h2.na g hg, fun q => h2.ne g hg q.symm⟩), R_of_row (enc := Value.int .i64) ?_ (fun g hg => ⟨h2.nb g hg, fun q => h2.ne g q.symm hg⟩), h2.chg.toBelow (Nat.le_refl _) (by simp)⟩
  · have := h2.a; unfold fsts at this; rw [List.map_map]; exact this
  · have := h2.b; unfold snds at this; rw [List.map_map]; exact this
end Go.Proofs.Ytddcjmdcpkmnjab.P
namespace Go.Proofs.Ytddcjmdcpkmnjab.Da
open Go.RowKit Go.Proofs.YtddcjmdcpkmnjabW.PrintWords Go.Proofs.Ytddcjmdcpkmnjab.Gn
def longest (l : List (Int × Int)) : Int × Bool := match l.getLast? with | none => (0, false) | some x => (x.1, true)
theorem longest_app (l : List (Int × Int)) (x : Int × Int) : longest (l ++ [x]) = (x.1, true) := by simp [longest]
def PsPost (kw : List ByteArray) (ids : List Int) (s : ByteArray) (w : World) (e : Ending) (w' : World) : Prop :=
  ∃ x ok, e = .returned (.tuple #[.int .i64 x, .bool ok]) ∧ (x, ok) = longest (pfx kw ids s s.size) ∧ Drw w w'
set_option maxHeartbeats 2000000 in
set_option maxRecDepth 100000 in
theorem ps_calls (w : World) (b m : Nat) (B C : Nat → Int) (kw : List ByteArray) (ids : List Int) (s : ByteArray) (h : DaRow w b m B C) (hm : m ≤ 60000) (hT : TrieOk kw ids m B C) (hs : s.size ≤ 1000) (hnz : ∀ j, j < s.size → (s.get! j).toNat ≠ 0) :
    Calls Try.prog 32 #[.slice (some ⟨b, 0, none⟩) m m, .string s] w (PsPost kw ids s w) := by
  have HR := Aside0.mk h
  have HT := Aside0.mk hT
  have HNZ := Aside0.mk hnz
  clear h hT hnz
  go_enter Try.func32, Try.ntmps32
  go_wp2_with fail
  go_loopw [4, 5, 7, 8] (fun v4 v5 v7 v8 wr => ∃ (j p : Nat) (x : Int) (ok : Bool), v8 = .int .i64 j ∧ v7 = .int .i64 p ∧ v4 = .int .i64 x ∧ v5 = .bool ok ∧ Aside0 (j ≤ s.size) ∧ Aside0 (On kw ids m B C s j p) ∧ Aside0 ((x, ok) = longest (pfx kw ids s j)) ∧ Aside0 (Drw w wr)) (fun _ _ _ v8 _ => s.size - (intOf v8).toNat)
  case atStart => exact ⟨0, 0, 0, false, rfl, rfl, rfl, rfl, ⟨Nat.zero_le _⟩, ⟨On.start HT.out s⟩, ⟨rfl⟩, ⟨Drw.refl w⟩⟩
  case round =>
    obtain ⟨j, p, x, ok, rfl, rfl, rfl, rfl, HJ, HO, HL, HD⟩ := hrel
    have HA := Aside0.mk (HR.out.chg (HD.out.chg []))
    by_cases hlt : j < s.size
    · have hp := HO.out.lt
      obtain ⟨base, c, e1, e2, e3, hcs, hc0, hc255, hR⟩ := HO.out.round HT.out hlt (HNZ.out j hlt)
      have d2 := HA.out.base p hp
      rw [e1] at d2
      have k1 : ((c:Int) == 0) = false := beq_eq_false_iff_ne.2 (by omega)
      have k2 : (c == 0) = false := beq_eq_false_iff_ne.2 (by omega)
      have r1 : decide ((0:Int) ≤ (p:Int)) = true := decide_eq_true (by omega)
      have r2 : decide ((p:Int) < (m:Int)) = true := decide_eq_true (by omega)
      have r3 : (p:Int) < (m:Int) := by omega
      have r4 : (0:Int) ≤ (p:Int) := by omega
      have r5 : (j:Int) < (s.size:Int) := by omega
      have r6 : (0:Int) ≤ (j:Int) := by omega
      clear e1
      cases hR with
      | far h e =>
        have HE := Aside0.mk e
        clear e
        go_wp2_with fail
        refine still_tail 11 (by kernel_rfl) (by kernel_rfl) ?_
        intro w2 e2
        have HD2 : Aside0 (Drw w w2) := ⟨by rw [e2]; exact HD.out.drewN 1⟩
        rw [show wr.cell? = w2.cell? by rw [e2]; rfl] at d2
        clear e2
        simp only [List.take_succ_cons, List.take_zero, List.drop_succ_cons, List.drop_zero]
        repeat still_step
        refine wpStill_nil ?_
        go_wp2_with fail
        go_ret2
        exact ⟨_, _, rfl, by rw [HE.out]; exact HL.out, HD2.out⟩
      | other h cv h1 h2 h3 e =>
        have d3 := HA.out.check (base + c) h
        rw [h1] at d3
        have n1 : (cv != (p:Int)) = true := bne_iff_ne.2 h2
        have n2 : (cv == (p:Int)) = false := beq_eq_false_iff_ne.2 h2
        have hw : wrap64 cv = cv := by unfold wrap64; omega
        have HE := Aside0.mk e
        clear h1 h2 h3 e
        go_wp2_with fail
        refine still_tail 11 (by kernel_rfl) (by kernel_rfl) ?_
        intro w2 e2
        have HD2 : Aside0 (Drw w w2) := ⟨by rw [e2]; exact HD.out.drewN 1⟩
        rw [show wr.cell? = w2.cell? by rw [e2]; rfl] at d2 d3
        clear e2
        simp only [List.take_succ_cons, List.take_zero, List.drop_succ_cons, List.drop_zero]
        repeat still_step
        refine wpStill_nil ?_
        go_wp2_with fail
        go_ret2
        exact ⟨_, _, rfl, by rw [HE.out]; exact HL.out, HD2.out⟩
      | hit h h1 on b2 h2 h3 h4 y h5 h6 e =>
        have d3 := HA.out.check (base + c) h
        rw [h1] at d3
        have d4 := HA.out.base (base + c) h
        rw [h2] at d4
        have HON := Aside0.mk on
        have HE := Aside0.mk e
        have d5 := HA.out.check b2 h3
        rw [h4, Int.natCast_add] at d5
        have d6 := HA.out.base b2 h3
        rw [h5] at d6
        obtain ⟨y0, y1⟩ := h6
        have k3 : decide (-y ≤ 0) = true := decide_eq_true (by omega)
        have k4 : -y ≤ 0 := by omega
        clear h1 h2 h4 h5 on e
        go_wp2_with fail
        refine still_tail 11 (by kernel_rfl) (by kernel_rfl) ?_
        intro w2 e2
        have HD2 : Aside0 (Drw w w2) := ⟨by rw [e2]; exact HD.out.drewN 1⟩
        rw [show wr.cell? = w2.cell? by rw [e2]; rfl] at d2 d3 d4 d5 d6
        clear e2
        simp only [List.take_succ_cons, List.take_zero, List.drop_succ_cons, List.drop_zero]
        repeat still_step
        refine wpStill_nil ?_
        go_wp2_with fail
        go_roundw
        case rel => exact ⟨j + 1, base + c, y, true, by go_num, by go_num, rfl, rfl, ⟨by omega⟩, HON, ⟨by rw [HE.out, longest_app]⟩, HD2⟩
        case measure => simp [intOf]; omega
      | end1 h h1 on b2 h2 h3 h4 e =>
        have d3 := HA.out.check (base + c) h
        rw [h1] at d3
        have d4 := HA.out.base (base + c) h
        rw [h2] at d4
        have HON := Aside0.mk on
        have HE := Aside0.mk e
        clear h1 h2 on e
        go_wp2_with fail
        refine still_tail 11 (by kernel_rfl) (by kernel_rfl) ?_
        intro w2 e2
        have HD2 : Aside0 (Drw w w2) := ⟨by rw [e2]; exact HD.out.drewN 1⟩
        rw [show wr.cell? = w2.cell? by rw [e2]; rfl] at d2 d3 d4
        clear e2
        simp only [List.take_succ_cons, List.take_zero, List.drop_succ_cons, List.drop_zero]
        repeat still_step
        refine wpStill_nil ?_
        go_wp2_with fail
        go_roundw
        case rel => exact ⟨j + 1, base + c, x, ok, by go_num, by go_num, rfl, rfl, ⟨by omega⟩, HON, ⟨by rw [HE.out]; exact HL.out⟩, HD2⟩
        case measure => simp [intOf]; omega
      | end2 h h1 on b2 h2 h3 cv h4 h5 h6 e =>
        have d3 := HA.out.check (base + c) h
        rw [h1] at d3
        have d4 := HA.out.base (base + c) h
        rw [h2] at d4
        have HON := Aside0.mk on
        have HE := Aside0.mk e
        have d5 := HA.out.check b2 h3
        rw [h4] at d5
        rw [Int.natCast_add] at h5
        have n1 : (cv == (base:Int) + (c:Int)) = false := beq_eq_false_iff_ne.2 h5
        have hw : wrap64 cv = cv := by unfold wrap64; omega
        clear h1 h2 h4 h5 h6 on e
        go_wp2_with fail
        refine still_tail 11 (by kernel_rfl) (by kernel_rfl) ?_
        intro w2 e2
        have HD2 : Aside0 (Drw w w2) := ⟨by rw [e2]; exact HD.out.drewN 1⟩
        rw [show wr.cell? = w2.cell? by rw [e2]; rfl] at d2 d3 d4 d5
        clear e2
        simp only [List.take_succ_cons, List.take_zero, List.drop_succ_cons, List.drop_zero]
        repeat still_step
        refine wpStill_nil ?_
        go_wp2_with fail
        go_roundw
        case rel => exact ⟨j + 1, base + c, x, ok, by go_num, by go_num, rfl, rfl, ⟨by omega⟩, HON, ⟨by rw [HE.out]; exact HL.out⟩, HD2⟩
        case measure => simp [intOf]; omega
    · have hj : j = s.size := by have := HJ.out; omega
      have HL2 := HL.out
      rw [hj] at HL2
      have HL3 := Aside0.mk HL2
      have k1 : decide (j < s.size) = false := decide_eq_false hlt
      have k2 : decide ((j:Int) < (s.size:Int)) = false := decide_eq_false (by omega)
      clear hj HL2
      go_wp2_with fail
      go_ret2
      exact ⟨_, _, rfl, HL3.out, HD.out⟩
theorem trieLongest_idle (p q r : Value) (w : World) :
    CallsD Try.prog 31 #[p, q, r] .returning w fun e u' w' => e = .returned (.tuple #[]) ∧ u' = .returning ∧ w' = w := by
  refine callsD_of_wpS Try.func31 rfl fun c₀ cs hu => ?_
  apply wpS_seq
  apply wpS_region
  simp [wpOpsS, go_sem, recoverD, hu, Try.ntmps31, Exit.thenS]
  refine wpS_cond (t := false) (by simp [Act.eval, Array.replicate]) ?_
  simp only [Bool.false_eq_true, if_false]
  refine wpS_of_wp (wp_skip ?_)
  cases c₀
  simp_all [bodyPostS, results, Try.results31]
def LongAll (kw : List ByteArray) (ids : List Int) (s : ByteArray) (w : World) (e : Ending) (w' : World) : Prop := ∃ x ok, e = .returned (.tuple #[.int .i64 x, .bool ok, .bool true]) ∧ (x, ok) = longest (pfx kw ids s s.size) ∧ Chg [] w w'
set_option maxHeartbeats 2000000 in
set_option maxRecDepth 100000 in
theorem trieLongest_calls (w : World) (A0 A1 : Option Addr) (c0 c1 : Nat) (kw : List ByteArray) (ids : List Int) (s : ByteArray) (hk : Kd.C Kd.string w A0 kw.length kw) (hi : Kd.C (Kd.int .i64) w A1 ids.length ids) (hg : goodB kw (idsOr kw ids)) (hs : textB s) :
    Calls Try.prog 15 #[.slice A0 kw.length c0, .slice A1 ids.length c1, .string s] w (LongAll kw (idsOr kw ids) s w) := by
  have hmf : ∀ (fn : Fn) (first cap : Array Value) (w : World), (Instr.makeFunc fn first cap).run Try.prog w = .ok (.func fn first cap) w := fun _ _ _ _ => rfl
  obtain ⟨v1, v2, v3, hc, hsz⟩ := three_vars w (.int .i64 0) (.bool false) (.bool false) 3 4 4
  have hb := built_calls _ A0 A1 c0 c1 kw ids (Kd.C_below hk (hc.toBelow (Nat.le_refl _) (by simp))) (Kd.C_below hi (hc.toBelow (Nat.le_refl _) (by simp))) hg.good
  have HB := Aside0.mk hb
  have V1 := Aside0.mk v1
  have V2 := Aside0.mk v2
  have V3 := Aside0.mk v3
  have HC := Aside0.mk hc
  have HSZ := Aside0.mk hsz
  have HS := Aside0.mk hs
  clear hb v1 v2 v3 hc hsz hk hi hg hs
  go_enter_defers Try.func15, Try.ntmps15
  go_wp2_with fail
  generalize ((w.alloc (.cells #[.int .i64 0] 3)).alloc (.cells #[.bool false] 4)).alloc (.cells #[.bool false] 4) = w0 at *
  refine HB.out.mono ?_
  rintro e w2 ⟨v, rfl, b, m, B, C, rfl, hrow, hbw, hm, hT, hc2⟩
  have hf := ps_calls w2 b m B C kw (idsOr kw ids) s hrow hm hT HS.out.1 HS.out.2
  have HF := Aside0.mk hf
  have HC2 : Aside0 (Chg [] w w2) := ⟨HC.out.above hc2 (by simp)⟩
  have V1' := Aside0.mk (V1.out.chg hc2 (by simp))
  have V2' := Aside0.mk (V2.out.chg hc2 (by simp))
  have V3' := Aside0.mk (V3.out.chg hc2 (by simp))
  clear hrow hbw hm hT hc2 hf HB V1 V2 V3 HC
  go_wp2_with fail
  refine HF.out.mono ?_
  rintro e w3 ⟨x, ok, rfl, hx, hd3⟩
  have hc3 := hd3.chg []
  have HC3 : Aside0 (Chg [] w w3) := ⟨HC2.out.above hc3 (by simp)⟩
  have V1 := Aside0.mk (V1'.out.chg hc3 (by simp))
  have V2 := Aside0.mk (V2'.out.chg hc3 (by simp))
  have V3 := Aside0.mk (V3'.out.chg hc3 (by simp))
  have HX := Aside0.mk hx
  have d1 := V1.out.cell
  have d2 := V2.out.cell
  have f1 := V1.out.frozen 0 none
  have f2 := V2.out.frozen 0 none
  have hn : w.heap.size ≠ w.heap.size + 1 := by omega
  have hn' : w.heap.size + 1 ≠ w.heap.size := by omega
  clear hc3 hd3 hx HF HC2 V1' V2' V3'
  go_wp2_with fail
  have V1x : Aside0 (Var ((w3.setCell ⟨w.heap.size, 0, none⟩ (.int .i64 x)).setCell ⟨w.heap.size + 1, 0, none⟩ (.bool ok)) w.heap.size 3 (.int .i64 x)) := ⟨(V1.out.set _).setOther (by show w.heap.size ≠ w.heap.size + 1; omega) _⟩
  have V2x : Aside0 (Var ((w3.setCell ⟨w.heap.size, 0, none⟩ (.int .i64 x)).setCell ⟨w.heap.size + 1, 0, none⟩ (.bool ok)) (w.heap.size + 1) 4 (.bool ok)) := ⟨(V2.out.setOther (by show w.heap.size + 1 ≠ w.heap.size; omega) _).set _⟩
  have V3x : Aside0 (Var ((w3.setCell ⟨w.heap.size, 0, none⟩ (.int .i64 x)).setCell ⟨w.heap.size + 1, 0, none⟩ (.bool ok)) (w.heap.size + 1 + 1) 4 (.bool false)) := ⟨(V3.out.setOther (by show w.heap.size + 1 + 1 ≠ w.heap.size; omega) _).setOther (by show w.heap.size + 1 + 1 ≠ w.heap.size + 1; omega) _⟩
  have HC4 : Aside0 (Chg [] w ((w3.setCell ⟨w.heap.size, 0, none⟩ (.int .i64 x)).setCell ⟨w.heap.size + 1, 0, none⟩ (.bool ok))) := ⟨(HC3.out.setCell (.inr (Nat.le_refl _)) _).setCell (.inr (by show w.heap.size ≤ w.heap.size + 1; omega)) _⟩
  clear V1 V2 V3 HC3 d1 d2 f1 f2
  generalize (w3.setCell ⟨w.heap.size, 0, none⟩ (.int .i64 x)).setCell ⟨w.heap.size + 1, 0, none⟩ (.bool ok) = w4 at *
  have d1 := V1x.out.cell
  have d2 := V2x.out.cell
  have d3 := V3x.out.cell
  have f1 := V1x.out.frozen 0 none
  have f2 := V2x.out.frozen 0 none
  have f3 := V3x.out.frozen 0 none
  have hn2 : w.heap.size + 1 + 1 ≠ w.heap.size := by omega
  have hn3 : w.heap.size + 1 + 1 ≠ w.heap.size + 1 := by omega
  have hn4 : w.heap.size ≠ w.heap.size + 1 + 1 := by omega
  have hn5 : w.heap.size + 1 ≠ w.heap.size + 1 + 1 := by omega
  go_region_held3 (fun w' => w'.cell? ⟨w.heap.size, 0, none⟩ = some (.int .i64 x) ∧ w'.cell? ⟨w.heap.size + 1, 0, none⟩ = some (.bool ok)) (first | (refine ⟨?_, ?_⟩ <;> (refine keep_cell_d ?_ (by simp)) <;> repeat (first | assumption | refine keep_cell ?_ (by simp))) | go_keep | assumption) (fail)
  all_goals go_wp2_with fail
  all_goals refine leaves_cons (f := 31) (args := #[.pointer (some ⟨w.heap.size, 0, none⟩), .pointer (some ⟨w.heap.size + 1, 0, none⟩), .pointer (some ⟨w.heap.size + 1 + 1, 0, none⟩)]) (by simp) (by simp [go_sem]) ?_
  all_goals refine (trieLongest_idle _ _ _ _).mono ?_
  all_goals rintro e u' w5 ⟨rfl, rfl, rfl⟩
  all_goals refine ⟨.tuple #[.int .i64 x, .bool ok, .bool true], ?_, x, ok, rfl, HX.out, ?_⟩
  · have e1 := keep_cell (a := ⟨w.heap.size + 1 + 1, 0, none⟩) (y := .bool true) (keep_cell (a := ⟨w.heap.size + 1, 0, none⟩) (y := .bool ok) (keep_cell (a := ⟨w.heap.size, 0, none⟩) (y := .int .i64 x) d1 (fun _ => rfl)) (by simp)) (by simp)
    have e2 := keep_cell (a := ⟨w.heap.size + 1 + 1, 0, none⟩) (y := .bool true) (keep_cell (a := ⟨w.heap.size + 1, 0, none⟩) (y := .bool ok) (keep_cell (a := ⟨w.heap.size, 0, none⟩) (y := .int .i64 x) d2 (by simp)) (fun _ => rfl)) (by simp)
    have e3 := World.cell?_setCell_same ((w4.setCell ⟨w.heap.size, 0, none⟩ (.int .i64 x)).setCell ⟨w.heap.size + 1, 0, none⟩ (.bool ok)) ⟨w.heap.size + 1 + 1, 0, none⟩ (.bool true) (keep_cell (a := ⟨w.heap.size + 1, 0, none⟩) (y := .bool ok) (keep_cell (a := ⟨w.heap.size, 0, none⟩) (y := .int .i64 x) d3 (by simp)) (by simp))
    generalize ((w4.setCell ⟨w.heap.size, 0, none⟩ (.int .i64 x)).setCell ⟨w.heap.size + 1, 0, none⟩ (.bool ok)).setCell ⟨w.heap.size + 1 + 1, 0, none⟩ (.bool true) = w6 at *
    simp [results, Try.results15, go_sem, e1, e2, e3]
  · exact (((HC4.out.setCell (.inr (Nat.le_refl _)) _).setCell (.inr (by show w.heap.size ≤ w.heap.size + 1; omega)) _).setCell (.inr (by show w.heap.size ≤ w.heap.size + 1 + 1; omega)) _).drew
end Go.Proofs.Ytddcjmdcpkmnjab.Da
namespace Go.Proofs.Ytddcjmdcpkmnjab.P
open Go.RowKit Go.Proofs.YtddcjmdcpkmnjabW.PrintWords Go.Proofs.YtddcjmdcpkmnjabW.PrintLast Go.Proofs.YtddcjmdcpkmnjabW.PrintMore Go.Proofs.Ytddcjmdcpkmnjab.Gn Go.Proofs.Ytddcjmdcpkmnjab.Da
def impl_TrieLongest.f (l0 : List ByteArray) (l1 : List Int) (s : ByteArray) : Option (Int × Bool × Bool) :=
  if goodB l0 (idsOr l0 l1) ∧ textB s then some ((longest (pfx l0 (idsOr l0 l1) s s.size)).1, (longest (pfx l0 (idsOr l0 l1) s s.size)).2, true) else none
theorem impl_TrieLongest.calls (A0 : Option Addr) (c0 : Nat) (l0 : List ByteArray) (A1 : Option Addr) (c1 : Nat) (l1 : List Int) (s : ByteArray) (r1 : Int) (r2 r3 : Bool) (w : World) (hr0 : Kd.C Kd.string w A0 l0.length l0) (hc0 : l0.length ≤ c0) (hr1 : Kd.C (Kd.int .i64) w A1 l1.length l1) (hc1 : l1.length ≤ c1) (h : impl_TrieLongest.f l0 l1 s = some (r1, r2, r3)) :
    Calls Try.prog 15 #[.slice A0 l0.length c0, .slice A1 l1.length c1, .string s] w fun e w' => e = .returned (.tuple #[.int .i64 r1, .bool r2, .bool r3]) ∧ Below w.heap.size w w' := by
  unfold impl_TrieLongest.f at h
  split at h
  case isFalse => cases h
  rename_i hok
  injection h with h
  refine (trieLongest_calls w A0 A1 c0 c1 l0 l1 s hr0 hr1 hok.1 hok.2).mono ?_
  rintro e w' ⟨x, ok, rfl, hx, hc⟩
  rw [← hx] at h
  simp only [Prod.mk.injEq] at h
  obtain ⟨rfl, rfl, rfl⟩ := h
  exact ⟨rfl, hc.toBelow (Nat.le_refl _) (by simp)⟩
end Go.Proofs.Ytddcjmdcpkmnjab.P
namespace Go.Proofs.Ytddcjmdcpkmnjab.Da
open Go.Proofs.Ytddcjmdcpkmnjab.Gn
def iota (n : Nat) : List Int := (List.range n).map fun i : Nat => (i : Int)
/-- Behind the first i words: the words, each once, their first places, and how often each stands again. -/
structure IdxOn (kw : List ByteArray) (i : Nat) (keys : List ByteArray) (ids : List Int) (S : List (Int × Value)) (no : Nat) (word : ByteArray) : Prop where
  il : i ≤ kw.length
  nd : keys.Nodup
  len : ids.length = keys.length
  mem : ∀ u, u ∈ keys ↔ u ∈ kw.take i
  idx : ∀ u ∈ keys, idOf keys ids u = (kw.idxOf u : Int)
  ids2 : ∀ x ∈ ids, 0 ≤ x ∧ x < i
  kl : keys.length ≤ i
  last : (i = 0 ∧ no = 0 ∧ word = ⟨#[]⟩) ∨ (0 < i ∧ word = kw.getD (i - 1) ⟨#[]⟩ ∧ no = kw.idxOf word)
  dup : ∀ u ∈ kw.take i, getL S (kw.idxOf u : Int) = if (kw.take i).count u = 1 then none else some (.int .i32 (((kw.take i).count u : Int) - 1))
  other : ∀ n : Int, (∀ u ∈ kw.take i, n ≠ kw.idxOf u) → getL S n = none
theorem IdxOn.start (kw : List ByteArray) : IdxOn kw 0 [] [] [] 0 ⟨#[]⟩ :=
  ⟨Nat.zero_le _, List.nodup_nil, rfl, by simp, by simp, by simp, Nat.le_refl _, .inl ⟨rfl, rfl, rfl⟩, by simp, fun _ _ => rfl⟩
theorem idxOf_lt_take {kw : List ByteArray} {i : Nat} {u : ByteArray} (h : u ∈ kw.take i) : kw.idxOf u < i ∧ u ∈ kw ∧ kw[kw.idxOf u]? = some u := by
  have hm : u ∈ kw := List.mem_of_mem_take h
  have h1 : kw.idxOf u = (kw.take i).idxOf u := by
    conv => lhs; rw [← List.take_append_drop i kw]
    rw [List.idxOf_append, if_pos h]
  have h2 := List.idxOf_lt_length_of_mem h
  rw [List.length_take] at h2
  refine ⟨by omega, hm, ?_⟩
  have h3 := List.idxOf_lt_length_of_mem hm
  rw [List.getElem?_eq_getElem h3, List.getElem_idxOf h3]
theorem idxOf_inj {kw : List ByteArray} {u v : ByteArray} (hu : u ∈ kw) (hv : v ∈ kw) (h : kw.idxOf u = kw.idxOf v) : u = v := by
  have h1 := List.getElem_idxOf (List.idxOf_lt_length_of_mem hu)
  have h2 := List.getElem_idxOf (List.idxOf_lt_length_of_mem hv)
  rw [← h1, ← h2]
  congr 1
theorem take_snoc {kw : List ByteArray} {i : Nat} (hi : i < kw.length) : kw.take (i + 1) = kw.take i ++ [kw[i]] := List.take_succ_eq_append_getElem hi
theorem getD_at {kw : List ByteArray} {i : Nat} (hi : i < kw.length) : kw.getD i ⟨#[]⟩ = kw[i] := by rw [List.getD_eq_getElem?_getD, List.getElem?_eq_getElem hi]; rfl
theorem idxOf_new {kw : List ByteArray} {i : Nat} (hi : i < kw.length) (h : kw[i] ∉ kw.take i) : kw.idxOf kw[i] = i := by
  have e : kw.idxOf kw[i] = (kw.take i ++ kw.drop i).idxOf kw[i] := by rw [List.take_append_drop]
  rw [e, List.idxOf_append, if_neg h, List.drop_eq_getElem_cons hi, List.idxOf_cons_self, List.length_take]
  omega
/-- The word stands in a row: it was the one before, or it is new. -/
theorem srt_last {kw : List ByteArray} (hs : Srt kw) {i : Nat} (hi : i < kw.length) (h : kw[i] ∈ kw.take i) : kw.getD (i - 1) ⟨#[]⟩ = kw[i] := by
  obtain ⟨x, hx, e⟩ := List.getElem_of_mem h
  rw [List.length_take] at hx
  rw [List.getElem_take] at e
  have h0 : i - 1 < kw.length := by omega
  rw [getD_at h0]
  unfold Srt at hs
  rw [List.pairwise_iff_getElem] at hs
  have h1 : kw[i - 1].data.toList ≤ kw[i].data.toList := hs (i - 1) i h0 hi (by omega)
  have h2 : kw[i].data.toList ≤ kw[i - 1].data.toList := by
    rw [← e]
    rcases Nat.lt_or_ge x (i - 1) with g | g
    · exact hs x (i - 1) (by omega) h0 g
    · have : x = i - 1 := by omega
      subst this
      exact Std.le_refl _
  have h3 : kw[i - 1].data.toList = kw[i].data.toList := Std.le_antisymm h1 h2
  generalize kw[i - 1] = a at h3
  generalize kw[i] = b at h3
  cases a; cases b; simpa using h3
theorem IdxOn.again {kw : List ByteArray} {i : Nat} {keys : List ByteArray} {ids : List Int} {S : List (Int × Value)} {no : Nat} {word : ByteArray} (h : IdxOn kw i keys ids S no word) (hi : i < kw.length) (hne : 0 < kw[i].size) (hw : kw[i] = word) :
    word ∈ kw.take i ∧ no = kw.idxOf word ∧ 1 ≤ (kw.take i).count word ∧ (getL S (no : Int)).getD (.int .i32 0) = .int .i32 (((kw.take i).count word : Int) - 1) ∧ IdxOn kw (i + 1) keys ids (putL S (no : Int) (.int .i32 ((kw.take i).count word : Int))) no word := by
  have hl : 0 < i ∧ word = kw.getD (i - 1) ⟨#[]⟩ ∧ no = kw.idxOf word := by
    rcases h.last with ⟨_, _, g⟩ | g
    · rw [hw, g] at hne
      exact absurd hne (by decide)
    · exact g
  obtain ⟨l1, l2, l3⟩ := hl
  have hm : word ∈ kw.take i := by
    rw [l2, getD_at (by omega)]
    have : (kw.take i)[i - 1]'(by rw [List.length_take]; omega) = kw[i - 1] := List.getElem_take
    rw [← this]
    exact List.getElem_mem _
  have hc : 1 ≤ (kw.take i).count word := List.count_pos_iff.2 hm
  have hd := h.dup word hm
  rw [← l3] at hd
  have ht := take_snoc hi
  rw [hw] at ht
  have hmem : ∀ u, u ∈ kw.take (i + 1) ↔ u ∈ kw.take i := fun u => by
    rw [ht, List.mem_append, List.mem_singleton]
    exact ⟨fun g => by rcases g with g | g; exact g; rw [g]; exact hm, .inl⟩
  refine ⟨hm, l3, hc, ?_, by omega, h.nd, h.len, fun u => (h.mem u).trans (hmem u).symm, h.idx, fun x hx => by have := h.ids2 x hx; omega, by have := h.kl; omega, .inr ⟨by omega, ?_, l3⟩, fun u hu => ?_, fun n hn => ?_⟩
  · rw [hd]
    split
    · next g => rw [g]; rfl
    · rfl
  · rw [Nat.add_sub_cancel, getD_at hi, hw]
  · have hu' := (hmem u).1 hu
    rw [getL_putL, ht, List.count_append]
    by_cases e : u = word
    · subst e
      rw [if_pos (by rw [l3]), List.count_singleton_self, if_neg (by omega)]
      congr 2
      omega
    · have : ¬ (kw.idxOf u : Int) = (no : Int) := fun g => e (idxOf_inj (List.mem_of_mem_take hu') (List.mem_of_mem_take hm) (by rw [← l3]; omega))
      rw [if_neg this, h.dup u hu', List.count_singleton, beq_false_of_ne (fun g => e g.symm)]
      simp
  · rw [getL_putL, if_neg (by rw [l3]; exact hn word ((hmem word).2 hm))]
    exact h.other n (fun u hu => hn u ((hmem u).2 hu))
theorem IdxOn.fresh {kw : List ByteArray} {i : Nat} {keys : List ByteArray} {ids : List Int} {S : List (Int × Value)} {no : Nat} {word : ByteArray} (hs : Srt kw) (h : IdxOn kw i keys ids S no word) (hi : i < kw.length) (hne : 0 < kw[i].size) (hw : kw[i] ≠ word) :
    IdxOn kw (i + 1) (keys ++ [kw[i]]) (ids ++ [(i : Int)]) S i kw[i] := by
  have hm : kw[i] ∉ kw.take i := fun g => by
    rcases h.last with ⟨z, _, _⟩ | ⟨z, l2, _⟩
    · subst z; simp at g
    · exact hw (by rw [l2, srt_last hs hi g])
  have hk : kw[i] ∉ keys := fun g => hm ((h.mem _).1 g)
  have hix := idxOf_new hi hm
  have ht := take_snoc hi
  have hmem : ∀ u, u ∈ kw.take (i + 1) ↔ u ∈ kw.take i ∨ u = kw[i] := fun u => by rw [ht, List.mem_append, List.mem_singleton]
  refine ⟨by omega, ?_, by simp [h.len], fun u => ?_, fun u hu => ?_, fun x hx => ?_, by have := h.kl; simp; omega, .inr ⟨by omega, ?_, hix.symm⟩, fun u hu => ?_, fun n hn => ?_⟩
  · rw [List.nodup_append]
    exact ⟨h.nd, by simp, fun a ha b hb e => by rw [List.mem_singleton.1 hb] at e; exact hk (by rw [← e]; exact ha)⟩
  · rw [List.mem_append, List.mem_singleton, hmem, h.mem]
  · by_cases g : u ∈ keys
    · have h2 := h.idx u g
      have h3 := List.idxOf_lt_length_of_mem g
      unfold idOf at h2 ⊢
      rw [List.idxOf_append, if_pos g, List.getD_eq_getElem?_getD, List.getElem?_append_left (by rw [h.len]; exact h3), ← List.getD_eq_getElem?_getD, h2]
    · have e : u = kw[i] := by
        rcases List.mem_append.1 hu with q | q
        · exact absurd q g
        · exact List.mem_singleton.1 q
      subst e
      unfold idOf
      rw [List.idxOf_append, if_neg g, List.idxOf_cons_self, Nat.zero_add, List.getD_eq_getElem?_getD, List.getElem?_append_right (by rw [h.len]; exact Nat.le_refl _), h.len, Nat.sub_self, hix]
      rfl
  · rcases List.mem_append.1 hx with q | q
    · have := h.ids2 x q; omega
    · rw [List.mem_singleton.1 q]; omega
  · rw [Nat.add_sub_cancel, getD_at hi]
  · rw [ht, List.count_append]
    rcases (hmem u).1 hu with g | g
    · have e : u ≠ kw[i] := fun q => hm (by rw [← q]; exact g)
      rw [h.dup u g, List.count_singleton, beq_false_of_ne (fun q => e q.symm)]
      simp
    · subst g
      rw [List.count_singleton_self, List.count_eq_zero.2 hm, if_pos rfl, hix]
      refine h.other _ (fun u hu => ?_)
      have := (idxOf_lt_take hu).1
      omega
  · exact h.other n (fun u hu => hn u ((hmem u).2 (.inl hu)))
theorem iota_at {n i : Nat} (h : i < n) : (iota n).getD i 0 = (i : Int) := by
  unfold iota
  rw [List.getD_eq_getElem?_getD, List.getElem?_map, List.getElem?_range h]; rfl
theorem iota_id {kw : List ByteArray} {u : ByteArray} (h : u ∈ kw) : idOf kw (iota kw.length) u = (kw.idxOf u : Int) := iota_at (List.idxOf_lt_length_of_mem h)
/-- How often the word at a place stands. -/
def cntAt (kw : List ByteArray) (id : Int) : Nat := kw.count (kw.getD id.toNat ⟨#[]⟩)
/-- The places of a word whose first one is id. -/
def span (kw : List ByteArray) (id : Int) : List Int := (List.range (cntAt kw id)).map fun i : Nat => id + i
def IdOk (kw : List ByteArray) (id : Int) : Prop := ∃ u ∈ kw, id = (kw.idxOf u : Int)
/-- The whole index. -/
structure Idx (kw keys : List ByteArray) (ids : List Int) (S : List (Int × Value)) : Prop where
  find : ∀ s, find keys ids s = find kw (iota kw.length) s
  pfx : ∀ s n, pfx keys ids s n = pfx kw (iota kw.length) s n
  look : ∀ id, IdOk kw id → (getL S id).getD (.int .i32 0) = .int .i32 ((cntAt kw id : Int) - 1)
theorem IdxOn.all {kw keys : List ByteArray} {ids : List Int} {S : List (Int × Value)} {no : Nat} {word : ByteArray} (h : IdxOn kw kw.length keys ids S no word) : Idx kw keys ids S := by
  have hm : ∀ u, u ∈ keys ↔ u ∈ kw := fun u => by have := h.mem u; rwa [List.take_length] at this
  have hid : ∀ u ∈ kw, idOf keys ids u = idOf kw (iota kw.length) u := fun u hu => by rw [h.idx u ((hm u).2 hu), iota_id hu]
  refine ⟨fun s => ?_, fun s n => ?_, fun id hid => ?_⟩
  · unfold Da.find
    by_cases hz : s.size = 0
    · rw [if_pos hz, if_pos hz]
    · rw [if_neg hz, if_neg hz]
      by_cases g : s ∈ kw
      · rw [if_pos ((hm s).2 g), if_pos g, hid s g]
      · rw [if_neg (fun q => g ((hm s).1 q)), if_neg g]
        congr 1
        rw [Bool.eq_iff_iff, List.any_eq_true, List.any_eq_true]
        exact ⟨fun ⟨u, a, b⟩ => ⟨u, (hm u).1 a, b⟩, fun ⟨u, a, b⟩ => ⟨u, (hm u).2 a, b⟩⟩
  · unfold Da.pfx
    refine congrArg (fun f => (List.range n).filterMap f) (funext fun t => ?_)
    by_cases g : s.extract 0 (t + 1) ∈ kw
    · rw [if_pos ((hm _).2 g), if_pos g, hid _ g]
    · rw [if_neg (fun q => g ((hm _).1 q)), if_neg g]
  · obtain ⟨u, hu, rfl⟩ := hid
    have hd := h.dup u (by rw [List.take_length]; exact hu)
    rw [List.take_length] at hd
    have hl := List.idxOf_lt_length_of_mem hu
    have e : kw.getD (kw.idxOf u : Int).toNat ⟨#[]⟩ = u := by
      show kw.getD (kw.idxOf u) ⟨#[]⟩ = u
      rw [getD_at hl, List.getElem_idxOf hl]
    unfold cntAt
    rw [e, hd]
    split
    · next g => rw [g]; rfl
    · rfl
theorem find_ok_id {kw : List ByteArray} (h0 : 0 < kw.length) {s : ByteArray} (h : (find kw (iota kw.length) s).2 = true) : IdOk kw (find kw (iota kw.length) s).1 := by
  unfold find at *
  by_cases hz : s.size = 0
  · rw [if_pos hz] at h; cases h
  · rw [if_neg hz] at h ⊢
    by_cases g : s ∈ kw
    · rw [if_pos g]; exact ⟨s, g, iota_id g⟩
    · rw [if_neg g]
      refine ⟨kw[0], List.getElem_mem _, ?_⟩
      rw [idxOf_new h0 (by simp)]
      rfl
theorem pfx_ok_id {kw : List ByteArray} {s : ByteArray} {n : Nat} : ∀ x ∈ pfx kw (iota kw.length) s n, IdOk kw x.1 := by
  intro x hx
  unfold pfx at hx
  obtain ⟨t, _, e⟩ := List.mem_filterMap.1 hx
  split at e
  · next g =>
    injection e with e
    rw [← e]
    exact ⟨_, g, iota_id g⟩
  · cases e
theorem IdOk.cnt {kw : List ByteArray} {id : Int} (h : IdOk kw id) : 1 ≤ cntAt kw id ∧ cntAt kw id ≤ kw.length ∧ 0 ≤ id ∧ id < kw.length := by
  obtain ⟨u, hu, rfl⟩ := h
  have hl := List.idxOf_lt_length_of_mem hu
  have e : kw.getD (kw.idxOf u : Int).toNat ⟨#[]⟩ = u := by
    show kw.getD (kw.idxOf u) ⟨#[]⟩ = u
    rw [getD_at hl, List.getElem_idxOf hl]
  unfold cntAt
  rw [e]
  exact ⟨List.count_pos_iff.2 hu, List.count_le_length, by omega, by omega⟩
end Go.Proofs.Ytddcjmdcpkmnjab.Da
namespace Go.Proofs.Ytddcjmdcpkmnjab.Gn
open Go.RowKit Go.Proofs.YtddcjmdcpkmnjabW.PrintWords Go.Proofs.Ytddcjmdcpkmnjab.P
theorem sorted_loop_yes (kw : List ByteArray) (hl : kw.length < 1000000) (ha : ∀ i, ∀ (h : i + 1 < kw.length), (kw[i]'(by omega)).data.toList ≤ (kw[i + 1]).data.toList) : ∀ (d k : Nat), d < kw.length → d < k → slices_IsSorted_string_string.l0 k kw (d : Int) = some true := by
  intro d
  induction d with
  | zero =>
    intro k h hk
    obtain ⟨k, rfl⟩ : ∃ m, k = m + 1 := ⟨k - 1, by omega⟩
    simp only [slices_IsSorted_string_string.l0]; rw [if_neg (by omega)]
  | succ d ih =>
    intro k h hk
    obtain ⟨k, rfl⟩ : ∃ m, k = m + 1 := ⟨k - 1, by omega⟩
    have hw : wrap64 (((d + 1 : Nat) : Int) - 1) = (d : Int) := by unfold wrap64; omega
    have e1 : rdOf ByteArray.empty kw ((d + 1 : Nat) : Int) = kw[d + 1] := by unfold rdOf; rw [show ((d + 1 : Nat) : Int).toNat = d + 1 by omega, List.getD_eq_getElem?_getD, List.getElem?_eq_getElem h]; rfl
    have e2 : rdOf ByteArray.empty kw (d : Int) = kw[d]'(by omega) := by unfold rdOf; rw [show (d : Int).toNat = d by omega, List.getD_eq_getElem?_getD, List.getElem?_eq_getElem (by omega)]; rfl
    simp only [slices_IsSorted_string_string.l0]
    rw [hw, e1, e2, less_eq, if_pos (by omega), if_pos (by omega), if_pos (by omega), if_pos (by omega), if_pos (by omega)]
    have hn : ¬ kw[d + 1].data.toList < (kw[d]'(by omega)).data.toList := fun g => List.not_le.2 g (ha d h)
    rw [decide_eq_false hn]
    exact ih k (by omega) (by omega)
theorem sorted_yes (w : World) (g c : Nat) (kw : List ByteArray) (h : ORow w 9 (.slice (some ⟨g, 0, none⟩) kw.length c) (kw.map Value.string)) (hl : kw.length < 1000000) (h0 : 0 < kw.length) (hc : kw.length ≤ c) (hs : Da.Srt kw) :
    Calls Try.prog 42 #[.slice (some ⟨g, 0, none⟩) kw.length c] w fun e w' => e = .returned (.bool true) ∧ ∃ n, w' = w.drewN n := by
  have ha : ∀ i, ∀ (h : i + 1 < kw.length), (kw[i]'(by omega)).data.toList ≤ (kw[i + 1]).data.toList := fun i h => by
    unfold Da.Srt at hs
    rw [List.pairwise_iff_getElem] at hs
    exact hs i (i + 1) (by omega) h (by omega)
  have r1 := sorted_loop_yes kw hl ha (kw.length - 1) kw.length (by omega) (by omega)
  have hf : sort_StringsAreSorted.f kw.length kw = some true := by
    unfold sort_StringsAreSorted.f slices_IsSorted_string_string.f
    have hw : wrap64 ((kw.length : Int) - 1) = ((kw.length - 1 : Nat) : Int) := by unfold wrap64; omega
    rw [hw, r1]; rfl
  have hC : Kd.C Kd.string w (some ⟨g, 0, none⟩) kw.length kw := by
    exact C_of_row h (by omega)
  refine (sort_StringsAreSorted.calls kw.length (some ⟨g, 0, none⟩) c kw true w hC hc hf).mono ?_
  rintro e w' ⟨rfl, hd⟩
  exact ⟨rfl, hd.out⟩
/-- A block that holds two values: a variable of a struct. -/
def Var2 (w : World) (v : Nat) (t : TypeId) (x y : Value) : Prop := w.heap[v]? = some (.cells #[x, y] t (0, 0))
theorem Var2.lt {w : World} {v : Nat} {t : TypeId} {x y : Value} (h : Var2 w v t x y) : v < w.heap.size := (Array.getElem?_eq_some_iff.1 h).1
theorem Var2.cell0 {w : World} {v : Nat} {t : TypeId} {x y : Value} (h : Var2 w v t x y) : w.cell? ⟨v, 0, none⟩ = some x := by
  unfold Var2 at h; simp [World.cell?, h]
theorem Var2.cell1 {w : World} {v : Nat} {t : TypeId} {x y : Value} (h : Var2 w v t x y) : w.cell? ⟨v, 1, none⟩ = some y := by
  unfold Var2 at h; simp [World.cell?, h]
theorem Var2.frozen {w : World} {v : Nat} {t : TypeId} {x y : Value} (h : Var2 w v t x y) (o : Nat) (s : Option Nat) : w.frozen? ⟨v, o, s⟩ = false := by
  unfold Var2 at h; simp [World.frozen?, h]
theorem Var2.chg {S : List Nat} {w w' : World} {v : Nat} {t : TypeId} {x y : Value} (h : Var2 w v t x y) (hc : Chg S w w') (hs : v ∉ S) : Var2 w' v t x y := (hc.block v h.lt hs).trans h
theorem Var2.set0 {w : World} {v : Nat} {t : TypeId} {x y : Value} (h : Var2 w v t x y) (z : Value) : Var2 (w.setCell ⟨v, 0, none⟩ z) v t z y := by
  have := heap_put w ⟨v, 0, none⟩ _ _ _ z h rfl
  unfold Var2; rw [this]; rfl
theorem Var2.set1 {w : World} {v : Nat} {t : TypeId} {x y : Value} (h : Var2 w v t x y) (z : Value) : Var2 (w.setCell ⟨v, 1, none⟩ z) v t x z := by
  have := heap_put w ⟨v, 1, none⟩ _ _ _ z h rfl
  unfold Var2; rw [this]; rfl
theorem Var2.new (w : World) (t : TypeId) (x y : Value) : Var2 (w.alloc (.cells #[x, y] t)) w.heap.size t x y := heap_alloc_new _ _
theorem ORow.made (w : World) (e n : Nat) (z : Value) (hz : z.cells.size = 1) (hn : n ≤ 1000) : ORow (w.alloc (.cells (madeCells z.cells (n * 1)) e)) e (.slice (some ⟨w.heap.size, 0, none⟩) 0 n) [] :=
  ORow.of (xs := []) (cap := n) (heap_alloc_new _ _) (Nat.zero_le _) (by unfold maxLen; omega) (by simp [madeCells]) rfl
end Go.Proofs.Ytddcjmdcpkmnjab.Gn
namespace Go.Proofs.Ytddcjmdcpkmnjab.Da
open Go.RowKit Go.Proofs.YtddcjmdcpkmnjabW.PrintWords Go.Proofs.Ytddcjmdcpkmnjab.Gn
/-- The objects of BuildIndexTable in the loop. -/
structure Bix (w wr : World) (pv : Nat) (v5 v6 : Value) (keys : List ByteArray) (ids : List Int) (S : List (Int × Value)) (no : Nat) (word : ByteArray) : Prop where
  a : ORow wr 9 v5 (keys.map Value.string)
  b : ORow wr 3 v6 (ids.map (Value.int .i64))
  map : MapAt wr (w.heap.size + 1) (fun n : Int => Value.int .i32 n) S
  prev : Var2 wr pv 72 (.int .i64 no) (.string word)
  idx : Var2 wr (w.heap.size + 1 + 1) 61 (.slice none 0 0) (.map (some (w.heap.size + 1)))
  res : Var2 wr w.heap.size 61 (.slice none 0 0) (.map none)
  chg : Chg [] w wr
  na : ∀ g, v5.ownBlock = some g → w.heap.size + 3 ≤ g ∧ g ≠ pv
  nb : ∀ g, v6.ownBlock = some g → w.heap.size + 3 ≤ g ∧ g ≠ pv
  ne : ∀ g, v5.ownBlock = some g → v6.ownBlock ≠ some g
  pvl : w.heap.size + 3 ≤ pv
section
variable {w wr w1 : World} {pv : Nat} {v5 v6 : Value} {keys : List ByteArray} {ids : List Int} {S : List (Int × Value)} {no : Nat} {word : ByteArray}
theorem Bix.setNo (h : Bix w wr pv v5 v6 keys ids S no word) (n : Nat) : Bix w (wr.setCell ⟨pv, 0, none⟩ (.int .i64 n)) pv v5 v6 keys ids S n word := by
  have hp := h.pvl
  have hc : Chg [pv] wr (wr.setCell ⟨pv, 0, none⟩ (.int .i64 n)) := (Chg.refl _ _).setCell (.inl (by simp)) _
  exact ⟨h.a.chg hc (fun g hg => by simpa using (h.na g hg).2), h.b.chg hc (fun g hg => by simpa using (h.nb g hg).2), h.map.chg hc (by simp; omega), h.prev.set0 _, h.idx.chg hc (by simp; omega), h.res.chg hc (by simp; omega), h.chg.above hc (fun q hq => .inr (by rw [List.mem_singleton.1 hq]; omega)), h.na, h.nb, h.ne, h.pvl⟩
theorem Bix.setWord (h : Bix w wr pv v5 v6 keys ids S no word) (s : ByteArray) : Bix w (wr.setCell ⟨pv, 1, none⟩ (.string s)) pv v5 v6 keys ids S no s := by
  have hp := h.pvl
  have hc : Chg [pv] wr (wr.setCell ⟨pv, 1, none⟩ (.string s)) := (Chg.refl _ _).setCell (.inl (by simp)) _
  exact ⟨h.a.chg hc (fun g hg => by simpa using (h.na g hg).2), h.b.chg hc (fun g hg => by simpa using (h.nb g hg).2), h.map.chg hc (by simp; omega), h.prev.set1 _, h.idx.chg hc (by simp; omega), h.res.chg hc (by simp; omega), h.chg.above hc (fun q hq => .inr (by rw [List.mem_singleton.1 hq]; omega)), h.na, h.nb, h.ne, h.pvl⟩
theorem Bix.put (h : Bix w wr pv v5 v6 keys ids S no word) {S' : List (Int × Value)} (hm : MapAt w1 (w.heap.size + 1) (fun n : Int => Value.int .i32 n) S') (hc : Chg [w.heap.size + 1] wr w1) : Bix w w1 pv v5 v6 keys ids S' no word := by
  have hp := h.pvl
  exact ⟨h.a.chg hc (fun g hg => by have := (h.na g hg).1; simp; omega), h.b.chg hc (fun g hg => by have := (h.nb g hg).1; simp; omega), hm, h.prev.chg hc (by simp; omega), h.idx.chg hc (by simp), h.res.chg hc (by simp), h.chg.above hc (fun q hq => .inr (by rw [List.mem_singleton.1 hq]; omega)), h.na, h.nb, h.ne, h.pvl⟩
theorem Bix.appA (h : Bix w wr pv v5 v6 keys ids S no word) {o : Obj} {va : Value} {k2 : List ByteArray} (h1 : ORow w1 9 va (k2.map Value.string)) (hc : Chg v5.ownBlock.toList (wr.alloc o) w1) (ho : va.ownBlock = v5.ownBlock ∨ va.ownBlock = some (wr.alloc o).heap.size) : Bix w w1 pv va v6 k2 ids S no word := by
  have hp := h.pvl
  have hpl := h.prev.lt
  have hcw : Chg v5.ownBlock.toList wr w1 := ((Chg.refl _ wr).alloc o).trans hc
  have hz := h.map.lt
  have hm : ∀ x, x < w.heap.size + 3 ∨ x = pv → x ∉ v5.ownBlock.toList := fun x hx hm => by
    have := h.na x (by simpa using hm)
    omega
  refine ⟨h1, h.b.chg hcw (fun g hg hm => h.ne g (by simpa using hm) hg), h.map.chg hcw (hm _ (.inl (by omega))), h.prev.chg hcw (hm _ (.inr rfl)), h.idx.chg hcw (hm _ (.inl (by omega))), h.res.chg hcw (hm _ (.inl (by omega))), h.chg.above hcw (fun q hq => .inr (by have := h.na q (by simpa using hq); omega)), fun g hg => ?_, h.nb, fun g hg hg2 => ?_, h.pvl⟩
  · rcases ho with q | q
    · exact h.na g (by rw [← q]; exact hg)
    · rw [hg] at q
      injection q with q
      rw [size_alloc] at q
      omega
  · rcases ho with q | q
    · exact h.ne g (by rw [← q]; exact hg) hg2
    · rw [hg] at q
      injection q with q
      rw [size_alloc] at q
      have := (h.b.block hg2).1
      omega
theorem Bix.appB (h : Bix w wr pv v5 v6 keys ids S no word) {o : Obj} {vb : Value} {k2 : List Int} (h1 : ORow w1 3 vb (k2.map (Value.int .i64))) (hc : Chg v6.ownBlock.toList (wr.alloc o) w1) (ho : vb.ownBlock = v6.ownBlock ∨ vb.ownBlock = some (wr.alloc o).heap.size) : Bix w w1 pv v5 vb keys k2 S no word := by
  have hp := h.pvl
  have hpl := h.prev.lt
  have hcw : Chg v6.ownBlock.toList wr w1 := ((Chg.refl _ wr).alloc o).trans hc
  have hz := h.map.lt
  have hm : ∀ x, x < w.heap.size + 3 ∨ x = pv → x ∉ v6.ownBlock.toList := fun x hx hm => by
    have := h.nb x (by simpa using hm)
    omega
  refine ⟨h.a.chg hcw (fun g hg hm => h.ne g hg (by simpa using hm)), h1, h.map.chg hcw (hm _ (.inl (by omega))), h.prev.chg hcw (hm _ (.inr rfl)), h.idx.chg hcw (hm _ (.inl (by omega))), h.res.chg hcw (hm _ (.inl (by omega))), h.chg.above hcw (fun q hq => .inr (by have := h.nb q (by simpa using hq); omega)), h.na, fun g hg => ?_, fun g hg hg2 => ?_, h.pvl⟩
  · rcases ho with q | q
    · exact h.nb g (by rw [← q]; exact hg)
    · rw [hg] at q
      injection q with q
      rw [size_alloc] at q
      omega
  · rcases ho with q | q
    · exact h.ne g hg (by rw [← q]; exact hg2)
    · rw [hg2] at q
      injection q with q
      rw [size_alloc] at q
      have := (h.a.block hg).1
      omega
end
theorem bytes_inj {a b : ByteArray} (h : a.toList = b.toList) : a = b := by
  have h1 : a.data.toList = b.data.toList := by
    rw [← ByteArray.toList_eq, ← ByteArray.toList_eq]
    exact h
  cases a; cases b
  simpa using h1
theorem zeroI32 (w : World) : (zeroValue 21).run Try.prog w = .ok (.int .i32 0) w := by kernel_rfl
structure GoodI (kw : List ByteArray) : Prop where
  pos : 0 < kw.length
  most : kw.length ≤ 30
  srt : Srt kw
  ne : ∀ s ∈ kw, 0 < s.size
  sz : ∀ s ∈ kw, s.size ≤ 40
  nz : ∀ s ∈ kw, ∀ j, j < s.size → (s.get! j).toNat ≠ 0
def BixPost (kw : List ByteArray) (w : World) (e : Ending) (w' : World) : Prop :=
  ∃ b m B C r keys ids S, e = .returned (.tuple #[.agg #[.slice (some ⟨b, 0, none⟩) m m, .map (some r)], .nilIface]) ∧ DaRow w' b m B C ∧ m ≤ 60000 ∧ TrieOk keys ids m B C ∧ MapAt w' r (fun n : Int => Value.int .i32 n) S ∧ Idx kw keys ids S ∧ Chg [] w w'
set_option maxHeartbeats 2000000 in
set_option maxRecDepth 100000 in
theorem bix_calls (w : World) (gk ck : Nat) (kw : List ByteArray) (hk : ORow w 9 (.slice (some ⟨gk, 0, none⟩) kw.length ck) (kw.map Value.string)) (hg : GoodI kw) (hck : kw.length ≤ ck) :
    Calls Try.prog 34 #[.slice (some ⟨gk, 0, none⟩) kw.length ck] w (BixPost kw w) := by
  have HK := Aside0.mk hk
  have HG := Aside0.mk hg
  have hpos := hg.pos
  have hmost := hg.most
  have hmm := @run_makeMap Try.prog
  clear hk hg
  have HV : Aside0 (∀ w0, w0 = ((w.alloc (.cells #[.slice none 0 0, .map none] 61)).alloc (.map #[] 0)).alloc (.cells #[.slice none 0 0, .map (some (w.heap.size + 1))] 61) → Var2 w0 w.heap.size 61 (.slice none 0 0) (.map none) ∧ Var2 w0 (w.heap.size + 1 + 1) 61 (.slice none 0 0) (.map (some (w.heap.size + 1))) ∧ MapAt w0 (w.heap.size + 1) (fun n : Int => Value.int .i32 n) [] ∧ Chg [] w w0 ∧ w0.heap.size = w.heap.size + 3) := ⟨fun w0 e => by
    subst e
    have h1 := Var2.new w 61 (.slice none 0 0) (.map none)
    have h2 := MapAt.new (w.alloc (.cells #[.slice none 0 0, .map none] 61)) (fun n : Int => Value.int .i32 n)
    have h3 := Var2.new ((w.alloc (.cells #[.slice none 0 0, .map none] 61)).alloc (.map #[] 0)) 61 (.slice none 0 0) (.map (some (w.heap.size + 1)))
    rw [size_alloc] at h2 h3
    rw [size_alloc] at h3
    exact ⟨h1.chg (((Chg.refl [] _).alloc _).alloc _) (by simp), h3, h2.chg ((Chg.refl [] _).alloc _) (by simp), ((((Chg.refl [] _).alloc _).alloc _).alloc _), by rw [size_alloc, size_alloc, size_alloc]⟩⟩
  go_enter Try.func34, Try.ntmps34
  go_wp2_with fail
  clear hmm
  obtain ⟨w0, hw0⟩ : ∃ w0, w0 = ((w.alloc (.cells #[.slice none 0 0, .map none] 61)).alloc (.map #[] 0)).alloc (.cells #[.slice none 0 0, .map (some (w.heap.size + 1))] 61) := ⟨_, rfl⟩
  have hV := HV.out w0 hw0
  rw [← hw0]
  clear HV hw0
  obtain ⟨va, vb, mp, hc0, hz0⟩ := hV
  have HK0 := Aside0.mk (HK.out.chg hc0 (by simp))
  refine (sorted_yes w0 gk ck kw HK0.out (by omega) hpos hck HG.out.srt).mono ?_
  rintro e w1' ⟨rfl, nd, rfl⟩
  have hd : Chg [] w0 (w0.drewN nd) := (Chg.refl [] w0).drewN nd
  have VA := Aside0.mk (va.chg hd (by simp))
  have VB := Aside0.mk (vb.chg hd (by simp))
  have MP := Aside0.mk (mp.chg hd (by simp))
  have HK1 := Aside0.mk (HK0.out.chg hd (by simp))
  have HC1 : Aside0 (Chg [] w (w0.drewN nd)) := ⟨hc0.drewN nd⟩
  have HZ1 : Aside0 ((w0.drewN nd).heap.size = w.heap.size + 3) := ⟨hz0⟩
  clear va vb mp hc0 hz0 HK0 hd
  generalize w0.drewN nd = w1 at *
  go_wp2_with (first | (at_make; refine wpList_make rfl _ _ _ rfl 9 (.string ⟨#[]⟩) 1 16 Try.underlying22 info9 .i64 .i64 0 (kw.length : Int) rfl rfl (by omega) (by omega) (by omega) (by omega) ?_; intro w2 e2; have HR5 : Aside0 (ORow w2 9 (.slice (some ⟨w1.heap.size, 0, none⟩) 0 kw.length) []) := ⟨by rw [e2]; exact ORow.made _ _ _ (.string ⟨#[]⟩) rfl (by omega)⟩; have HC2 : Aside0 (Chg [] w1 w2) := ⟨by rw [e2]; exact (Chg.refl [] w1).alloc _⟩; have HZ2 : Aside0 (w2.heap.size = w1.heap.size + 1) := ⟨by rw [e2, size_alloc]⟩; clear e2) | (at_make; refine wpList_make rfl _ _ _ rfl 3 (.int .i64 0) 1 8 Try.underlying23 info3 .i64 .i64 0 (kw.length : Int) rfl rfl (by omega) (by omega) (by omega) (by omega) ?_; intro w3 e3; have HR6 : Aside0 (ORow w3 3 (.slice (some ⟨w2.heap.size, 0, none⟩) 0 kw.length) []) := ⟨by rw [e3]; exact ORow.made _ _ _ (.int .i64 0) rfl (by omega)⟩; have HC3 : Aside0 (Chg [] w2 w3) := ⟨by rw [e3]; exact (Chg.refl [] w2).alloc _⟩; have HZ3 : Aside0 (w3.heap.size = w2.heap.size + 1) := ⟨by rw [e3, size_alloc]⟩; clear e3))
  have HX : Aside0 (Bix w (w3.alloc (.cells #[.int .i64 0, .string ⟨#[]⟩] 72)) w3.heap.size (.slice (some ⟨w1.heap.size, 0, none⟩) 0 kw.length) (.slice (some ⟨w2.heap.size, 0, none⟩) 0 kw.length) [] [] [] 0 ⟨#[]⟩) := ⟨by
    have z1 := HZ1.out
    have z2 := HZ2.out
    have z3 := HZ3.out
    have c13 : Chg [] w1 w3 := HC2.out.trans HC3.out
    have c3 : Chg [] w3 (w3.alloc (.cells #[.int .i64 0, .string ⟨#[]⟩] 72)) := (Chg.refl [] w3).alloc _
    refine ⟨(HR5.out.chg HC3.out (by simp)).chg c3 (by simp), HR6.out.chg c3 (by simp), (MP.out.chg c13 (by simp)).chg c3 (by simp), Var2.new _ _ _ _, (VB.out.chg c13 (by simp)).chg c3 (by simp), (VA.out.chg c13 (by simp)).chg c3 (by simp), (HC1.out.trans c13).trans c3, fun g hg => ?_, fun g hg => ?_, fun g hg hg2 => ?_, by omega⟩
    · have hg : w1.heap.size = g := by injection hg
      omega
    · have hg : w2.heap.size = g := by injection hg
      omega
    · have hg : w1.heap.size = g := by injection hg
      have hg2 : w2.heap.size = g := by injection hg2
      omega⟩
  clear VA VB MP HC1 HZ1 HZ2 HZ3 HR5 HR6 HC2 HC3 HK1
  generalize w3.alloc (.cells #[.int .i64 0, .string ⟨#[]⟩] 72) = w4 at *
  generalize w3.heap.size = pv at *
  go_loopw [5, 6, 28] (fun v5 v6 v28 wr => ∃ (i : Nat) (keys : List ByteArray) (ids : List Int) (S : List (Int × Value)) (no : Nat) (word : ByteArray), v28 = .int .i64 i ∧ Aside0 (Bix w wr pv v5 v6 keys ids S no word) ∧ Aside0 (IdxOn kw i keys ids S no word)) (fun _ _ v28 _ => kw.length - (intOf v28).toNat)
  case atStart => exact ⟨0, [], [], [], 0, ⟨#[]⟩, rfl, HX, ⟨IdxOn.start kw⟩⟩
  case round =>
    clear HX
    obtain ⟨i, keys, ids, S, no, word, rfl, HB, HI⟩ := hrel
    have hil := HI.out.il
    have hkl := HI.out.kl
    have HKr := Aside0.mk (HK.out.chg HB.out.chg (by simp))
    obtain ⟨A5, c5, e5, hl5, _⟩ := HB.out.a.slice
    obtain ⟨A6, c6, e6, hl6, _⟩ := HB.out.b.slice
    rw [List.length_map] at e5 e6 hl5 hl6
    rw [HI.out.len] at e6 hl6
    subst e5 e6
    by_cases hlt : i < kw.length
    · obtain ⟨s, hs⟩ : ∃ s, s = kw[i] := ⟨_, rfl⟩
      have hne : 0 < kw[i].size := HG.out.ne _ (List.getElem_mem _)
      have c1 : wr.cell? ⟨gk, i, none⟩ = some (.string s) := by
        have := HKr.out.cell i (by simpa using hlt)
        rw [this, List.getElem_map, hs]
      have d1 := HB.out.prev.cell0
      have d2 := HB.out.prev.cell1
      have d3 := HB.out.idx.cell1
      have f1 := HB.out.prev.frozen 0 none
      have f2 := HB.out.prev.frozen 1 none
      have k1 : decide ((0:Int) ≤ (i:Int)) = true := decide_eq_true (by omega)
      have k2 : decide ((i:Int) < (kw.length:Int)) = true := decide_eq_true (by omega)
      by_cases hw : s = word
      · obtain ⟨g1, g2, g3, g4, g5⟩ := HI.out.again hlt hne (by rw [← hs]; exact hw)
        have hcl : (kw.take i).count word ≤ i := Nat.le_trans List.count_le_length (by rw [List.length_take]; omega)
        obtain ⟨q, hq⟩ : ∃ q, (kw.take i).count word = q + 1 := ⟨(kw.take i).count word - 1, by omega⟩
        have hno : no < kw.length := by rw [g2]; exact List.idxOf_lt_length_of_mem (List.mem_of_mem_take g1)
        rw [hq] at g4 g5
        have HL : Aside0 ((getL S (no : Int)).getD (.int .i32 0) = .int .i32 (q : Int)) := ⟨by rw [g4]; congr 1; omega⟩
        have HI5 : Aside0 (IdxOn kw (i + 1) keys ids (putL S (no : Int) (.int .i32 ((q : Int) + 1))) no word) := ⟨g5⟩
        have b1 : (s.toList == word.toList) = true := beq_iff_eq.2 (by rw [hw])
        have hqb : q ≤ 30 := by omega
        clear g1 g2 g3 g4 g5 hcl hq hw hs hne
        go_wp2_with (first | (at_lookup; refine wpList_lookup rfl _ _ _ false rfl rfl (no : Int) rfl HB.out.map (keyInt Try.underlying21) Try.underlying59 (.int .i32 0) zeroI32 ?_; rw [if_neg (by decide), HL.out]) | (at_mapUpdate; refine wpList_mapUpdate rfl _ _ _ _ rfl rfl (no : Int) rfl (.int .i32 ((q : Int) + 1)) rfl HB.out.map (keyInt Try.underlying21) Try.underlying59 ?_; intro w5 m5 h5 z5; have HB5 := Aside0.mk (HB.out.put m5 h5); clear m5 h5 z5))
        go_roundw
        case rel => exact ⟨i + 1, keys, ids, _, no, word, by go_num, HB5, HI5⟩
        case measure => simp [intOf]; omega
      · have g5 := HI.out.fresh HG.out.srt hlt hne (by rw [← hs]; exact hw)
        have HI5 : Aside0 (IdxOn kw (i + 1) (keys ++ [s]) (ids ++ [(i : Int)]) S i s) := ⟨by rw [hs]; exact g5⟩
        have b1 : (s.toList == word.toList) = false := beq_eq_false_iff_ne.2 (fun g => hw (bytes_inj g))
        have HBx := Aside0.mk ((HB.out.setNo i).setWord s)
        have hidl := HI.out.len
        have HLN := Aside0.mk hidl
        clear g5 hw hs hne hidl
        go_upto_region 14 with fail
        clear HB d1 d2 d3 f1 f2
        generalize (wr.setCell ⟨pv, 0, none⟩ (.int .i64 i)).setCell ⟨pv, 1, none⟩ (.string s) = w5 at *
        go_wp2_with (first | (at_builtin; refine wpList_append1 rfl _ _ 22 rfl 9 (.string ⟨#[]⟩) 16 Try.underlying22 info9 rfl (.slice A5 keys.length c5) (keys.map Value.string) rfl (HBx.out.a.chg ((Chg.refl [] w5).alloc _) (fun _ _ => by simp)) w5.heap.size (.string s) rfl (cell_box w5 _ _) rfl ?s1 ?s2 ?_; (case s1 => (rw [List.length_map]; omega)); (case s2 => (rw [List.length_map]; unfold maxLen; omega)); intro v5' w6 hr6 hc6 ho6; have HB6 := Aside0.mk (HBx.out.appA (k2 := keys ++ [s]) (by rw [List.map_append]; exact hr6) hc6 ho6); clear hr6 hc6 ho6 HBx) | (at_builtin; refine wpList_append1 rfl _ _ 23 rfl 3 (.int .i64 0) 8 Try.underlying23 info3 rfl (.slice A6 keys.length c6) (ids.map (Value.int .i64)) rfl (HB6.out.b.chg ((Chg.refl [] w6).alloc _) (fun _ _ => by simp)) w6.heap.size (.int .i64 i) rfl (cell_box w6 _ _) rfl ?s1 ?s2 ?_; (case s1 => (rw [List.length_map, HLN.out]; omega)); (case s2 => (rw [List.length_map, HLN.out]; unfold maxLen; omega)); intro v6' w7 hr7 hc7 ho7; have HB7 := Aside0.mk (HB6.out.appB (k2 := ids ++ [(i : Int)]) (by rw [List.map_append]; exact hr7) hc7 ho7); clear hr7 hc7 ho7 HB6))
        go_roundw
        case rel => exact ⟨i + 1, keys ++ [s], ids ++ [(i : Int)], S, i, s, by go_num, HB7, HI5⟩
        case measure => simp [intOf]; omega
    · have hi : i = kw.length := by omega
      have hI := HI.out
      rw [hi] at hI
      have hmem : ∀ u, u ∈ keys ↔ u ∈ kw := fun u => by have := hI.mem u; rwa [List.take_length] at this
      have hk0 : 0 < keys.length := List.length_pos_of_mem ((hmem kw[0]).2 (List.getElem_mem _))
      obtain ⟨g5, x5, e5, hx5⟩ := own_slice (n := keys.length) HB.out.a (by intro q; have := congrArg List.length q; rw [List.length_map, List.length_nil] at this; omega) (List.length_map _)
      obtain ⟨g6, x6, e6, hx6⟩ := own_slice (n := keys.length) HB.out.b (by intro q; have := congrArg List.length q; rw [List.length_map, List.length_nil, hI.len] at this; omega) (by rw [List.length_map, hI.len])
      injection e5 with e5 _ e5'
      injection e6 with e6 _ e6'
      subst e5 e5' e6 e6'
      have n5 := HB.out.na g5 rfl
      have n6 := HB.out.nb g6 rfl
      have hBC := build_calls wr g5 c5 g6 c6 keys ids ⟨HB.out.a, by have := HB.out.b; rw [← hI.len] at this; exact this, fun q => HB.out.ne g5 rfl (by rw [q]; rfl), hI.len, hk0, by omega, hI.nd, fun x hx => by have := hI.ids2 x hx; omega, fun u hu => HG.out.sz u ((hmem u).1 hu), fun u hu => HG.out.nz u ((hmem u).1 hu)⟩
      rw [hI.len] at hBC
      have HBC := Aside0.mk hBC
      have HIX := Aside0.mk hI.all
      have k1 : decide (i < kw.length) = false := decide_eq_false hlt
      have k2 : decide ((i:Int) < (kw.length:Int)) = false := decide_eq_false (by omega)
      have hpv := HB.out.pvl
      have HN : Aside0 (w.heap.size + 3 ≤ g5 ∧ w.heap.size + 3 ≤ g6) := ⟨n5.1, n6.1⟩
      clear hi hI hmem hx5 hx6 n5 n6 hBC
      go_wp2_with fail
      refine HBC.out.mono ?_
      rintro e w5 ⟨v, rfl, b, m, B, C, rfl, hrow, hbw, hm, hT, hc⟩
      have hn := HN.out
      have hs : ∀ x, x < w.heap.size + 3 → x ∉ [g5, g6] := fun x hx => by simp; omega
      have HRW : Aside0 (DaRow w5 b m B C) := ⟨hrow⟩
      have HTT := Aside0.mk hT
      have HMM := Aside0.mk hm
      have VI := Aside0.mk (HB.out.idx.chg hc (hs _ (by omega)))
      have VR := Aside0.mk (HB.out.res.chg hc (hs _ (by omega)))
      have MP := Aside0.mk (HB.out.map.chg hc (hs _ (by omega)))
      have HC5 : Aside0 (Chg [] w w5) := ⟨HB.out.chg.above hc (fun x hx => .inr (by simp only [List.mem_cons, List.not_mem_nil, or_false] at hx; omega))⟩
      have HBW : Aside0 (wr.heap.size ≤ b) := ⟨hbw⟩
      have hz := HB.out.map.lt
      have HBZ : Aside0 (w.heap.size + 3 ≤ b) := ⟨by have := HB.out.idx.lt; omega⟩
      clear hrow hT hm hc hbw hz hs hn HBC HB HN
      have d1 := VI.out.cell0
      have d2 := VI.out.cell1
      have d3 := VR.out.cell0
      have d4 := VR.out.cell1
      have f1 := VI.out.frozen 0 none
      have f2 := VR.out.frozen 0 none
      have f3 := VR.out.frozen 1 none
      have q1 : w.heap.size ≠ w.heap.size + 1 + 1 := by omega
      have q2 : w.heap.size + 1 + 1 ≠ w.heap.size := by omega
      go_wp2_with fail
      have V6 := Aside0.mk (show Var2 (((w5.setCell ⟨w.heap.size + 1 + 1, 0, none⟩ (.slice (some ⟨b, 0, none⟩) m m)).setCell ⟨w.heap.size, 0, none⟩ (.slice (some ⟨b, 0, none⟩) m m)).setCell ⟨w.heap.size, 1, none⟩ (.map (some (w.heap.size + 1)))) w.heap.size 61 (.slice (some ⟨b, 0, none⟩) m m) (.map (some (w.heap.size + 1))) from ((VR.out.chg ((Chg.refl [w.heap.size + 1 + 1] w5).setCell (.inl (by simp)) _) (by simp; omega)).set0 _).set1 _)
      have HC6 := Aside0.mk (((HC5.out.setCell (a := ⟨w.heap.size + 1 + 1, 0, none⟩) (.inr (by show w.heap.size ≤ w.heap.size + 1 + 1; omega)) (.slice (some ⟨b, 0, none⟩) m m)).setCell (a := ⟨w.heap.size, 0, none⟩) (.inr (Nat.le_refl _)) (.slice (some ⟨b, 0, none⟩) m m)).setCell (a := ⟨w.heap.size, 1, none⟩) (.inr (Nat.le_refl _)) (.map (some (w.heap.size + 1))))
      have HK6 := Aside0.mk ((((Chg.refl [w.heap.size + 1 + 1, w.heap.size] w5).setCell (a := ⟨w.heap.size + 1 + 1, 0, none⟩) (.inl (by simp)) (.slice (some ⟨b, 0, none⟩) m m)).setCell (a := ⟨w.heap.size, 0, none⟩) (.inl (by simp)) (.slice (some ⟨b, 0, none⟩) m m)).setCell (a := ⟨w.heap.size, 1, none⟩) (.inl (by simp)) (.map (some (w.heap.size + 1))))
      clear d1 d2 d3 d4 f1 f2 f3
      generalize ((w5.setCell ⟨w.heap.size + 1 + 1, 0, none⟩ (.slice (some ⟨b, 0, none⟩) m m)).setCell ⟨w.heap.size, 0, none⟩ (.slice (some ⟨b, 0, none⟩) m m)).setCell ⟨w.heap.size, 1, none⟩ (.map (some (w.heap.size + 1))) = w6 at *
      have d1 := V6.out.cell0
      have d2 := V6.out.cell1
      (try simp only [Exit.inBlock, Exit.then]); refine bodyPost_ret (v := .tuple #[.agg #[.slice (some ⟨b, 0, none⟩) m m, .map (some (w.heap.size + 1))], .nilIface]) ?_ rfl ?_
      · simp [results, Try.results34, go_sem, d1, d2]
      · have hbz := HBZ.out
        refine ⟨b, m, B, C, w.heap.size + 1, keys, ids, S, rfl, ?_, HMM.out, HTT.out, MP.out.chg HK6.out (by simp), HIX.out, HC6.out⟩
        exact (HK6.out.block b HRW.out.lt (by simp; omega)).trans HRW.out
end Go.Proofs.Ytddcjmdcpkmnjab.Da
namespace Go.Proofs.Ytddcjmdcpkmnjab.Da
open Go.RowKit Go.Proofs.YtddcjmdcpkmnjabW.PrintWords Go.Proofs.Ytddcjmdcpkmnjab.Gn
def frow (f : Nat → Int) (L i : Nat) : Array Value := Array.ofFn (n := L) fun q => .int .i64 (if q.val < i then f q.val else 0)
theorem frow_get (f : Nat → Int) (L i q : Nat) : (frow f L i)[q]? = if q < L then some (.int .i64 (if q < i then f q else 0)) else none := by
  by_cases h : q < L
  · rw [if_pos h]; simp [frow, h]
  · rw [if_neg h]; simp [frow]; omega
theorem frow_zero (f : Nat → Int) (L : Nat) : madeCells #[.int .i64 0] (L * 1) = frow f L 0 := by
  apply Array.ext_getElem?
  intro q
  rw [frow_get]
  unfold madeCells
  by_cases h : q < L
  · rw [if_pos h, Array.getElem?_map, Array.getElem?_range, if_pos (by omega)]
    simp [Nat.mod_one]
  · rw [if_neg h, Array.getElem?_eq_none (by simp; omega)]
theorem frow_set (f : Nat → Int) (L i : Nat) : (frow f L i).setIfInBounds i (.int .i64 (f i)) = frow f L (i + 1) := by
  apply Array.ext_getElem?
  intro q
  rw [Array.getElem?_setIfInBounds, frow_get, frow_get]
  by_cases e : i = q
  · subst e
    rw [if_pos rfl]
    have : (frow f L i).size = L := by simp [frow]
    rw [this]
    by_cases h : i < L
    · rw [if_pos h, if_pos h, if_pos (by omega)]
    · rw [if_neg h, if_neg h]
  · rw [if_neg e]
    by_cases h : q < L
    · rw [if_pos h, if_pos h]
      by_cases h2 : q < i
      · rw [if_pos h2, if_pos (by omega)]
      · rw [if_neg h2, if_neg (by omega)]
    · rw [if_neg h, if_neg h]
theorem frow_row {w : World} {g L : Nat} {f : Nat → Int} (h : w.heap[g]? = some (.cells (frow f L L) 3 (0, 0))) (hL : L ≤ 1000) : ORow w 3 (.slice (some ⟨g, 0, none⟩) L L) (((List.range L).map f).map (Value.int .i64)) := by
  have hl : (((List.range L).map f).map (Value.int .i64)).length = L := by simp
  have := ORow.of (xs := ((List.range L).map f).map (Value.int .i64)) (cap := L) h (by omega) (by unfold maxLen; omega) (by simp [frow]) (by
    rw [hl]
    apply List.ext_getElem?
    intro j
    rw [List.getElem?_take, Array.getElem?_toList, frow_get]
    by_cases hj : j < L
    · simp [hj]
    · rw [if_neg hj, List.getElem?_eq_none (by omega)])
  rwa [hl] at this
/-- An index lies in memory. -/
structure IxW (w : World) (kw : List ByteArray) (b m : Nat) (B C : Nat → Int) (r : Nat) (keys : List ByteArray) (ids : List Int) (S : List (Int × Value)) : Prop where
  row : DaRow w b m B C
  mm : m ≤ 60000
  tr : TrieOk keys ids m B C
  mp : MapAt w r (fun n : Int => Value.int .i32 n) S
  ix : Idx kw keys ids S
theorem IxW.chg {w w' : World} {kw : List ByteArray} {b m : Nat} {B C : Nat → Int} {r : Nat} {keys : List ByteArray} {ids : List Int} {S : List (Int × Value)} (h : IxW w kw b m B C r keys ids S) (hc : Chg [] w w') : IxW w' kw b m B C r keys ids S :=
  ⟨h.row.chg hc, h.mm, h.tr, h.mp.chg hc (by simp), h.ix⟩
def isearch (kw : List ByteArray) (s : ByteArray) : List Int := if (find kw (iota kw.length) s).2 then span kw (find kw (iota kw.length) s).1 else []
def SePost (kw : List ByteArray) (s : ByteArray) (w : World) (e : Ending) (w' : World) : Prop :=
  ∃ v, e = .returned v ∧ ORow w' 3 v ((isearch kw s).map (Value.int .i64)) ∧ Chg [] w w' ∧ ∀ g, v.ownBlock = some g → w.heap.size ≤ g
set_option maxHeartbeats 2000000 in
set_option maxRecDepth 100000 in
theorem ixsearch_calls (w : World) (kw : List ByteArray) (b m : Nat) (B C : Nat → Int) (r : Nat) (keys : List ByteArray) (ids : List Int) (S : List (Int × Value)) (s : ByteArray) (h : IxW w kw b m B C r keys ids S) (h0 : 0 < kw.length) (h30 : kw.length ≤ 30) (hs : s.size ≤ 1000) (hnz : ∀ j, j < s.size → (s.get! j).toNat ≠ 0) :
    Calls Try.prog 35 #[.agg #[.slice (some ⟨b, 0, none⟩) m m, .map (some r)], .string s] w (SePost kw s w) := by
  have V := Aside0.mk (Var2.new w 61 (.slice (some ⟨b, 0, none⟩) m m) (.map (some r)))
  have hc1 : Chg [] w (w.alloc (.cells #[.slice (some ⟨b, 0, none⟩) m m, .map (some r)] 61)) := (Chg.refl [] w).alloc _
  have H1 := Aside0.mk (h.chg hc1)
  have HC1 := Aside0.mk hc1
  have hf := find_calls _ b m B C keys ids s H1.out.row h.mm h.tr hs hnz
  have HF := Aside0.mk hf
  have d1 := V.out.cell0
  have d2 := V.out.cell1
  clear h hc1 hf hnz
  go_enter Try.func35, Try.ntmps35
  go_wp2_with fail
  generalize w.alloc (.cells #[.slice (some ⟨b, 0, none⟩) m m, .map (some r)] 61) = w1 at *
  refine HF.out.mono ?_
  rintro e w2 ⟨x, ok, rfl, hx, hc2⟩
  rw [H1.out.ix.find] at hx
  have H2 := Aside0.mk (H1.out.chg hc2)
  have V2 := Aside0.mk (V.out.chg hc2 (by simp))
  have HC2 : Aside0 (Chg [] w w2) := ⟨HC1.out.trans hc2⟩
  have e1 := V2.out.cell0
  have e2 := V2.out.cell1
  clear HF H1 V HC1 hc2 d1 d2
  cases ok with
  | false =>
    have HI : Aside0 (isearch kw s = []) := ⟨by unfold isearch; rw [← hx]; rfl⟩
    clear hx
    go_wp2_with fail
    go_ret
    exact ⟨_, rfl, by rw [HI.out]; exact ORow.nil _ _, HC2.out, fun g hg => by cases hg⟩
  | true =>
    have hid : IdOk kw x := by
      have := find_ok_id h0 (s := s) (by rw [← hx])
      rwa [← hx] at this
    have HI : Aside0 (isearch kw s = span kw x) := ⟨by unfold isearch; rw [← hx]; rfl⟩
    obtain ⟨g1, g2, g3, g4⟩ := hid.cnt
    have hl := H2.out.ix.look x hid
    obtain ⟨q, hq⟩ : ∃ q, cntAt kw x = q + 1 := ⟨cntAt kw x - 1, by omega⟩
    have HSP : Aside0 (span kw x = (List.range (q + 1)).map (fun i : Nat => x + (i : Int))) := ⟨by unfold span; rw [hq]⟩
    rw [hq] at hl g2
    have HL : Aside0 ((getL S x).getD (.int .i32 0) = .int .i32 (q : Int)) := ⟨by rw [hl]; congr 1; omega⟩
    have hq30 : q ≤ 29 := by omega
    clear hx hid g1 g2 hl hq
    have HB3 : Aside0 (∀ w3, w3 = w2.alloc (.cells (madeCells #[.int .i64 0] ((q + 1) * 1)) 3) → w3.heap[w2.heap.size]? = some (.cells (frow (fun i => x + (i : Int)) (q + 1) 0) 3 (0, 0))) := ⟨fun w3 e => by rw [e, heap_alloc_new, frow_zero]⟩
    have hto : ((1 : Int) + (q : Int)).toNat = q + 1 := by omega
    go_wp2_with (first | (at_lookup; refine wpList_lookup rfl _ _ _ false rfl rfl x rfl H2.out.mp (keyInt Try.underlying21) Try.underlying59 (.int .i32 0) zeroI32 ?_; rw [if_neg (by decide), HL.out]) | (at_make; refine wpList_make rfl _ _ _ rfl 3 (.int .i64 0) 1 8 Try.underlying23 info3 .i32 .i32 (1 + (q : Int)) (1 + (q : Int)) rfl rfl (by omega) (by omega) (by omega) (by omega) ?_; intro w3 e3; rw [hto] at e3 ⊢; have HR3 := Aside0.mk (HB3.out w3 e3); have HC3 : Aside0 (Chg [] w2 w3) := ⟨by rw [e3]; exact (Chg.refl [] w2).alloc _⟩; clear e3 HB3))
    go_loopw [9] (fun v9 wr => ∃ i : Nat, v9 = .int .i64 i ∧ Aside0 (i ≤ q + 1) ∧ Aside0 (wr.heap[w2.heap.size]? = some (.cells (frow (fun i => x + (i : Int)) (q + 1) i) 3 (0, 0))) ∧ Aside0 (Chg [w2.heap.size] w3 wr)) (fun v9 _ => q + 1 - (intOf v9).toNat)
    case atStart => exact ⟨0, rfl, ⟨Nat.zero_le _⟩, HR3, ⟨Chg.refl _ _⟩⟩
    case round =>
      clear HR3
      obtain ⟨i, rfl, HI0, HR, HCR⟩ := hrel
      by_cases hlt : i < q + 1
      · have c1 : wr.cell? ⟨w2.heap.size, i, none⟩ = some (.int .i64 0) := by
          simp [World.cell?, HR.out, frow_get, hlt]
        have f1 : wr.frozen? ⟨w2.heap.size, i, none⟩ = false := by simp [World.frozen?, HR.out]
        have k1 : decide ((0:Int) ≤ (i:Int)) = true := decide_eq_true (by omega)
        have k2 : decide ((i:Int) < (q:Int) + 1) = true := decide_eq_true (by omega)
        have k3 : decide ((i:Int) < ((q + 1 : Nat):Int)) = true := decide_eq_true (by omega)
        have HR4 : Aside0 ((wr.setCell ⟨w2.heap.size, i, none⟩ (.int .i64 (x + (i : Int)))).heap[w2.heap.size]? = some (.cells (frow (fun i => x + (i : Int)) (q + 1) (i + 1)) 3 (0, 0))) := ⟨by
          have := heap_put wr ⟨w2.heap.size, i, none⟩ _ _ _ (.int .i64 (x + (i : Int))) HR.out rfl
          rw [this, ← frow_set (fun i => x + (i : Int)) (q + 1) i]⟩
        go_wp2_with fail
        go_roundw
        case rel => exact ⟨i + 1, by go_num, ⟨by omega⟩, HR4, ⟨HCR.out.setCell (.inl (by simp)) _⟩⟩
        case measure => simp [intOf]; omega
      · have hi : i = q + 1 := by have := HI0.out; omega
        have hrow := HR.out
        rw [hi] at hrow
        have hrw := frow_row hrow (by omega)
        have HRW := Aside0.mk hrw
        have k1 : decide (i < q + 1) = false := decide_eq_false hlt
        have k2 : decide ((i:Int) < (q:Int) + 1) = false := decide_eq_false (by omega)
        have k3 : decide ((i:Int) < ((q + 1 : Nat):Int)) = false := decide_eq_false (by omega)
        have hcx : Chg [w2.heap.size] w2 wr := (HC3.out.mono (by simp)).trans HCR.out
        have HCX : Aside0 (Chg [] w wr) := ⟨HC2.out.above hcx (fun g hg => .inr (by rw [List.mem_singleton.1 hg]; exact HC2.out.size))⟩
        have HBG : Aside0 (w.heap.size ≤ w2.heap.size) := ⟨HC2.out.size⟩
        clear hi hrow hrw hcx HI0 HR
        go_wp2_with fail
        go_ret
        exact ⟨_, rfl, by rw [HI.out, HSP.out]; exact HRW.out, HCX.out, fun g hg => by
          have hg : w2.heap.size = g := by injection hg
          rw [← hg]; exact HBG.out⟩
end Go.Proofs.Ytddcjmdcpkmnjab.Da
namespace Go.Proofs.Ytddcjmdcpkmnjab.Da
open Go.RowKit Go.Proofs.YtddcjmdcpkmnjabW.PrintWords Go.Proofs.YtddcjmdcpkmnjabW.PrintLast Go.Proofs.YtddcjmdcpkmnjabW.PrintMore Go.Proofs.Ytddcjmdcpkmnjab.Gn
def goodIB (kw : List ByteArray) : Prop := 0 < kw.length ∧ kw.length ≤ 30 ∧ Srt kw ∧ (∀ s ∈ kw, 0 < s.size) ∧ (∀ s ∈ kw, s.size ≤ 40) ∧ (∀ s ∈ kw, ∀ j, j < s.size → (s.get! j).toNat ≠ 0)
instance (kw : List ByteArray) : Decidable (Srt kw) := by unfold Srt; infer_instance
instance (kw : List ByteArray) : Decidable (goodIB kw) := by unfold goodIB; infer_instance
theorem goodIB.good {kw : List ByteArray} (h : goodIB kw) : GoodI kw := by
  obtain ⟨h1, h2, h3, h4, h5, h6⟩ := h
  exact ⟨h1, h2, h3, h4, h5, h6⟩
theorem two_vars (w : World) (x y : Value) (t u : TypeId) :
    Var ((w.alloc (.cells #[x] t)).alloc (.cells #[y] u)) w.heap.size t x ∧ Var ((w.alloc (.cells #[x] t)).alloc (.cells #[y] u)) (w.heap.size + 1) u y ∧ Chg [] w ((w.alloc (.cells #[x] t)).alloc (.cells #[y] u)) ∧ ((w.alloc (.cells #[x] t)).alloc (.cells #[y] u)).heap.size = w.heap.size + 2 := by
  have h1 : Var (w.alloc (.cells #[x] t)) w.heap.size t x := heap_alloc_new _ _
  have h2 := heap_alloc_new (w.alloc (.cells #[x] t)) (.cells #[y] u)
  rw [size_alloc] at h2
  exact ⟨h1.alloc _, h2, ((Chg.refl [] w).alloc _).alloc _, by rw [size_alloc, size_alloc]⟩
theorem indexSearch_idle (p q : Value) (w : World) :
    CallsD Try.prog 33 #[p, q] .returning w fun e u' w' => e = .returned (.tuple #[]) ∧ u' = .returning ∧ w' = w := by
  refine callsD_of_wpS Try.func33 rfl fun c₀ cs hu => ?_
  apply wpS_seq
  apply wpS_region
  simp [wpOpsS, go_sem, recoverD, hu, Try.ntmps33, Exit.thenS]
  refine wpS_cond (t := false) (by simp [Act.eval, Array.replicate]) ?_
  simp only [Bool.false_eq_true, if_false]
  refine wpS_of_wp (wp_skip ?_)
  cases c₀
  simp_all [bodyPostS, results, Try.results33]
def IsPost (kw : List ByteArray) (s : ByteArray) (w : World) (e : Ending) (w' : World) : Prop :=
  ∃ v, e = .returned (.tuple #[v, .bool true]) ∧ ORow w' 3 v ((isearch kw s).map (Value.int .i64)) ∧ Chg [] w w' ∧ ∀ g, v.ownBlock = some g → w.heap.size ≤ g
set_option maxHeartbeats 2000000 in
set_option maxRecDepth 100000 in
theorem indexSearch_calls (w : World) (A0 : Option Addr) (c0 : Nat) (kw : List ByteArray) (s : ByteArray) (hk : Kd.C Kd.string w A0 kw.length kw) (hg : goodIB kw) (hs : textB s) :
    Calls Try.prog 19 #[.slice A0 kw.length c0, .string s] w (IsPost kw s w) := by
  have hmf : ∀ (fn : Fn) (first cap : Array Value) (w : World), (Instr.makeFunc fn first cap).run Try.prog w = .ok (.func fn first cap) w := fun _ _ _ _ => rfl
  obtain ⟨v1, v2, hc, hsz⟩ := two_vars w (.slice none 0 0) (.bool false) 23 4
  have HK := Aside0.mk (Kd.C_below hk (hc.toBelow (Nat.le_refl _) (by simp)))
  have V1 := Aside0.mk v1
  have V2 := Aside0.mk v2
  have HC := Aside0.mk hc
  have HSZ := Aside0.mk hsz
  have HS := Aside0.mk hs
  have HG := Aside0.mk hg.good
  have hpos := hg.1
  have hmost := hg.2.1
  clear v1 v2 hc hsz hk hg hs
  go_enter_defers Try.func19, Try.ntmps19
  go_upto_region 2 with fail
  generalize (w.alloc (.cells #[.slice none 0 0] 23)).alloc (.cells #[.bool false] 4) = w0 at *
  go_wp2_with (at_builtin; refine wpList_appendAll (enc := Value.string) (he := fun _ => rfl) rfl _ _ 22 rfl 9 (.string ⟨#[]⟩) 16 Try.underlying22 info9 rfl (.slice (some ⟨w0.heap.size, 0, none⟩) 0 0) [] rfl (ORow.made0 _ _) A0 c0 kw rfl ?c1 hpos ?c2 ?c3 ?_; (case c1 => exact Kd.C_below HK.out ((Below.refl _ _).alloc (Nat.le_refl _) _)); (case c2 => (simp; omega)); (case c3 => (unfold maxLen; simp; omega)); intro v2 w2 hr2 hc2 ho2; obtain ⟨gk, ck, rfl, hck⟩ := own_slice (n := kw.length) hr2 (by intro q; have := congrArg List.length q; simp only [List.nil_append, List.length_map, List.length_nil] at this; omega) (by simp); have HB := Aside0.mk (bix_calls w2 gk ck kw hr2 HG.out hck); have HC2 : Aside0 (Chg [] w0 w2) := ⟨((Chg.refl [] w0).alloc _).above hc2 (fun g hg => .inr (by have : g = w0.heap.size := (by simpa [Value.ownBlock] using hg); omega))⟩; clear hr2 hc2 ho2)
  refine HB.out.mono ?_
  rintro e w3 ⟨b, m, B, C, r, keys, ids, S, rfl, hrow, hm, hT, hmp, hix, hc3⟩
  have hx3 : IxW w3 kw b m B C r keys ids S := ⟨hrow, hm, hT, hmp, hix⟩
  have V := Aside0.mk (Var2.new w3 61 (.slice (some ⟨b, 0, none⟩) m m) (.map (some r)))
  have hc4 : Chg [] w3 (w3.alloc (.cells #[.slice (some ⟨b, 0, none⟩) m m, .map (some r)] 61)) := (Chg.refl [] w3).alloc _
  have hc04 : Chg [] w0 (w3.alloc (.cells #[.slice (some ⟨b, 0, none⟩) m m, .map (some r)] 61)) := (HC2.out.trans hc3).trans hc4
  have HX := Aside0.mk (hx3.chg hc4)
  have HSE := Aside0.mk (ixsearch_calls _ kw b m B C r keys ids S s HX.out hpos hmost HS.out.1 HS.out.2)
  have V1' := Aside0.mk (V1.out.chg hc04 (by simp))
  have V2' := Aside0.mk (V2.out.chg hc04 (by simp))
  have HC4 : Aside0 (Chg [] w (w3.alloc (.cells #[.slice (some ⟨b, 0, none⟩) m m, .map (some r)] 61))) := ⟨HC.out.trans hc04⟩
  have d1 := V.out.cell0
  have d2 := V.out.cell1
  clear hrow hm hT hmp hix hc3 hx3 hc4 hc04 HB V1 V2 HC HC2
  go_wp2_with fail
  generalize w3.alloc (.cells #[.slice (some ⟨b, 0, none⟩) m m, .map (some r)] 61) = w4 at *
  refine HSE.out.mono ?_
  rintro e w5 ⟨v, rfl, hv, hc5, hvb⟩
  obtain ⟨A4, c4, e4, _⟩ := hv.slice
  obtain ⟨n4, HN4⟩ : ∃ n4, n4 = ((isearch kw s).map (Value.int .i64)).length := ⟨_, rfl⟩
  rw [← HN4] at e4
  subst e4
  have V1 := Aside0.mk (V1'.out.chg hc5 (by simp))
  have V2 := Aside0.mk (V2'.out.chg hc5 (by simp))
  have HV := Aside0.mk hv
  have HVB := Aside0.mk (show ∀ g, (Value.slice A4 n4 c4).ownBlock = some g → w.heap.size + 2 ≤ g from fun g hg => by have := hvb g hg; have := V2'.out.lt; omega)
  have HC5 : Aside0 (Chg [] w w5) := ⟨HC4.out.trans hc5⟩
  have e1 := V1.out.cell
  have e2 := V2.out.cell
  have f1 := V1.out.frozen 0 none
  have f2 := V2.out.frozen 0 none
  have hn : w.heap.size ≠ w.heap.size + 1 := by omega
  have hn' : w.heap.size + 1 ≠ w.heap.size := by omega
  clear hv hc5 hvb HN4 HSE V1' V2' HC4 d1 d2 V HX
  go_wp2_with fail
  refine leaves_cons (f := 33) (args := #[.pointer (some ⟨w.heap.size, 0, none⟩), .pointer (some ⟨w.heap.size + 1, 0, none⟩)]) (by simp) (by simp [go_sem]) ?_
  refine (indexSearch_idle _ _ _).mono ?_
  rintro e u' w6 ⟨rfl, rfl, rfl⟩
  have W1 : Var ((w5.setCell ⟨w.heap.size, 0, none⟩ (.slice A4 n4 c4)).setCell ⟨w.heap.size + 1, 0, none⟩ (.bool true)) w.heap.size 23 (.slice A4 n4 c4) := (V1.out.set _).setOther (by show w.heap.size ≠ w.heap.size + 1; omega) _
  have W2 : Var ((w5.setCell ⟨w.heap.size, 0, none⟩ (.slice A4 n4 c4)).setCell ⟨w.heap.size + 1, 0, none⟩ (.bool true)) (w.heap.size + 1) 4 (.bool true) := (V2.out.setOther (by show w.heap.size + 1 ≠ w.heap.size; omega) _).set _
  have HK6 := ((Chg.refl [w.heap.size, w.heap.size + 1] w5).setCell (a := ⟨w.heap.size, 0, none⟩) (.inl (by simp)) (.slice A4 n4 c4)).setCell (a := ⟨w.heap.size + 1, 0, none⟩) (.inl (by simp)) (.bool true)
  have HC6 := (HC5.out.setCell (a := ⟨w.heap.size, 0, none⟩) (.inr (Nat.le_refl _)) (.slice A4 n4 c4)).setCell (a := ⟨w.heap.size + 1, 0, none⟩) (.inr (by show w.heap.size ≤ w.heap.size + 1; omega)) (.bool true)
  clear e1 e2 f1 f2
  generalize (w5.setCell ⟨w.heap.size, 0, none⟩ (.slice A4 n4 c4)).setCell ⟨w.heap.size + 1, 0, none⟩ (.bool true) = w6 at *
  have e1 := W1.cell
  have e2 := W2.cell
  refine ⟨.tuple #[.slice A4 n4 c4, .bool true], ?_, .slice A4 n4 c4, rfl, HV.out.chg HK6 (fun g hg => by have := HVB.out g hg; simp; omega), HC6, fun g hg => by have := HVB.out g hg; omega⟩
  simp [results, Try.results19, go_sem, e1, e2]
end Go.Proofs.Ytddcjmdcpkmnjab.Da
namespace Go.Proofs.Ytddcjmdcpkmnjab.P
open Go.RowKit Go.Proofs.YtddcjmdcpkmnjabW.PrintWords Go.Proofs.YtddcjmdcpkmnjabW.PrintLast Go.Proofs.YtddcjmdcpkmnjabW.PrintMore Go.Proofs.Ytddcjmdcpkmnjab.Gn Go.Proofs.Ytddcjmdcpkmnjab.Da
def impl_IndexSearch.f (l0 : List ByteArray) (s : ByteArray) : Option (List Int × Bool) := if goodIB l0 ∧ textB s then some (isearch l0 s, true) else none
theorem impl_IndexSearch.calls (A0 : Option Addr) (c0 : Nat) (l0 : List ByteArray) (s : ByteArray) (r1 : List Int) (r2 : Bool) (w : World) (hr0 : Kd.C Kd.string w A0 l0.length l0) (hc0 : l0.length ≤ c0) (h : impl_IndexSearch.f l0 s = some (r1, r2)) :
    Calls Try.prog 19 #[.slice A0 l0.length c0, .string s] w fun e w' => ∃ v0_ : Value, e = .returned (.tuple #[v0_, .bool r2]) ∧ Kd.R (Kd.int .i64) 3 w' w.heap.size (fun _ => True) v0_ r1 ∧ Below w.heap.size w w' := by
  unfold impl_IndexSearch.f at h
  split at h
  case isFalse => cases h
  rename_i hok
  injection h with h
  simp only [Prod.mk.injEq] at h
  obtain ⟨rfl, rfl⟩ := h
  refine (indexSearch_calls w A0 c0 l0 s hr0 hok.1 hok.2).mono ?_
  rintro e w' ⟨v, rfl, hv, hc, hb⟩
  exact ⟨v, rfl, R_of_row (enc := Value.int .i64) hv (fun g hg => ⟨hb g hg, trivial⟩), hc.toBelow (Nat.le_refl _) (by simp)⟩
end Go.Proofs.Ytddcjmdcpkmnjab.P
namespace Go.Proofs.Ytddcjmdcpkmnjab.Da
open Go.RowKit Go.Proofs.YtddcjmdcpkmnjabW.PrintWords Go.Proofs.YtddcjmdcpkmnjabW.PrintLast Go.Proofs.YtddcjmdcpkmnjabW.PrintMore Go.Proofs.Ytddcjmdcpkmnjab.Gn
theorem info23 : (Try.prog.info? 23).map (fun i => (i.zero, i.size, i.bytes)) = some (some (.slice none 0 0), 1, 24) := by kernel_rfl
def spans (kw : List ByteArray) (l : List (Int × Int)) : List (List Int) := l.map fun x => span kw x.1
def IpPost (kw : List ByteArray) (s : ByteArray) (w : World) (e : Ending) (w' : World) : Prop :=
  ∃ va vb, e = .returned (.tuple #[va, vb]) ∧ ORow w' 3 va (snds (pfx kw (iota kw.length) s s.size)) ∧ Kd.S (Kd.slice 3 (Kd.int .i64)) 23 w' w.heap.size (fun k_ => some k_ ≠ va.ownBlock) vb (spans kw (pfx kw (iota kw.length) s s.size)) ∧ Chg [] w w' ∧ ∀ g, va.ownBlock = some g → w.heap.size ≤ g
set_option maxHeartbeats 2000000 in
set_option maxRecDepth 100000 in
theorem ixprefixes_calls (w : World) (kw : List ByteArray) (b m : Nat) (B C : Nat → Int) (r : Nat) (keys : List ByteArray) (ids : List Int) (S : List (Int × Value)) (s : ByteArray) (h : IxW w kw b m B C r keys ids S) (h0 : 0 < kw.length) (h30 : kw.length ≤ 30) (hs : s.size ≤ 1000) (hnz : ∀ j, j < s.size → (s.get! j).toNat ≠ 0) :
    Calls Try.prog 37 #[.agg #[.slice (some ⟨b, 0, none⟩) m m, .map (some r)], .string s] w (IpPost kw s w) := by
  have V := Aside0.mk (Var2.new w 61 (.slice (some ⟨b, 0, none⟩) m m) (.map (some r)))
  have hc1 : Chg [] w (w.alloc (.cells #[.slice (some ⟨b, 0, none⟩) m m, .map (some r)] 61)) := (Chg.refl [] w).alloc _
  have H1 := Aside0.mk (h.chg hc1)
  have HC1 := Aside0.mk hc1
  have hf := cps_calls _ b m B C keys ids s H1.out.row h.mm h.tr hs hnz
  have HF := Aside0.mk hf
  have d1 := V.out.cell0
  have d2 := V.out.cell1
  clear h hc1 hf hnz
  go_enter Try.func37, Try.ntmps37
  go_wp2_with fail
  generalize w.alloc (.cells #[.slice (some ⟨b, 0, none⟩) m m, .map (some r)] 61) = w1 at *
  refine HF.out.mono ?_
  rintro e w2 ⟨va, vb, rfl, ht⟩
  rw [H1.out.ix.pfx] at ht
  obtain ⟨P, hP⟩ : ∃ P, P = pfx kw (iota kw.length) s s.size := ⟨_, rfl⟩
  have hpok : ∀ x ∈ P, IdOk kw x.1 := by rw [hP]; exact pfx_ok_id
  have hpl : P.length ≤ 1000 := by rw [hP]; have := pfx_len kw (iota kw.length) s s.size; omega
  rw [← hP] at ht
  obtain ⟨A4, c4, e4, hl4, _⟩ := ht.a.slice
  rw [show (fsts P).length = P.length by simp [fsts]] at e4 hl4
  subst e4
  have hc2 := ht.chg
  have H2 := Aside0.mk (H1.out.chg hc2)
  have V2 := Aside0.mk (V.out.chg hc2 (by simp))
  have HC2 : Aside0 (Chg [] w w2) := ⟨HC1.out.trans hc2⟩
  have HT := Aside0.mk ht
  have HP := Aside0.mk hP
  have HPO := Aside0.mk hpok
  have HW1 : Aside0 (w.heap.size ≤ w1.heap.size) := ⟨HC1.out.size⟩
  clear HF H1 V HC1 hc2 d1 d2 ht hP hpok
  go_wp2_with fail
  go_loopw [5, 21] (fun v5 v21 wr =>  ∃ i : Nat, v21 = .int .i64 i ∧ Aside0 (i ≤ P.length) ∧ Aside0 (Kd.S (Kd.slice 3 (Kd.int .i64)) 23 wr w2.heap.size (fun _ => True) v5 (spans kw (P.take i))) ∧ Aside0 (Below w2.heap.size w2 wr)) (fun _ v21 _ => P.length - (intOf v21).toNat)
  case atStart => exact ⟨0, rfl, ⟨Nat.zero_le _⟩, ⟨Kd.S_nil _ _ _ _ _⟩, ⟨Below.refl _ _⟩⟩
  case round =>
    obtain ⟨i, rfl, HI, HS, HB⟩ := hrel
    have hcr := Chg.below HB.out
    by_cases hlt : i < P.length
    · obtain ⟨A5, c5, e5⟩ := Kd.R_slice (Kd.S_R HS.out)
      obtain ⟨NN5, HN5⟩ : ∃ NN5, NN5 = (spans kw (P.take i)).length := ⟨_, rfl⟩
      rw [← HN5] at e5
      subst e5
      have hNN5 : NN5 = i := by rw [HN5]; unfold spans; rw [List.length_map, List.length_take]; omega
      clear HN5
      have hNN5' : i = NN5 := hNN5.symm
      subst hNN5'
      try clear hNN5
      obtain ⟨x, hx⟩ : ∃ x, x = P[i].1 := ⟨_, rfl⟩
      have hid : IdOk kw x := by rw [hx]; exact HPO.out _ (List.getElem_mem _)
      obtain ⟨g4, c4', e4', _⟩ := own_slice (n := P.length) HT.out.a (by intro q; have := congrArg List.length q; simp [fsts] at this; subst this; simp at hlt) (by simp [fsts])
      injection e4' with e4' _ e4c
      subst e4' e4c
      have c1 : wr.cell? ⟨g4, i, none⟩ = some (.int .i64 x) := by
        have := (HT.out.a.chg hcr (by simp)).cell i (by simp [fsts]; exact hlt)
        rw [this, hx]
        simp [fsts]
      have HTK : Aside0 (spans kw (P.take (i + 1)) = spans kw (P.take i) ++ [span kw x]) := ⟨by rw [List.take_succ_eq_append_getElem hlt]; unfold spans; rw [List.map_append, hx]; rfl⟩
      obtain ⟨g1, g2, g3, g4⟩ := hid.cnt
      have HIX := Aside0.mk (H2.out.chg hcr)
      have hl := HIX.out.ix.look x hid
      obtain ⟨q, hq⟩ : ∃ q, cntAt kw x = q + 1 := ⟨cntAt kw x - 1, by omega⟩
      have HSP : Aside0 (span kw x = (List.range (q + 1)).map (fun i : Nat => x + (i : Int))) := ⟨by unfold span; rw [hq]⟩
      rw [hq] at hl g2
      have HL : Aside0 ((getL S x).getD (.int .i32 0) = .int .i32 (q : Int)) := ⟨by rw [hl]; congr 1; omega⟩
      have hq30 : q ≤ 29 := by omega
      have e1 := (V2.out.chg hcr (by simp)).cell0
      have e2 := (V2.out.chg hcr (by simp)).cell1
      have k1 : decide ((0:Int) ≤ (i:Int)) = true := decide_eq_true (by omega)
      have k2 : decide ((i:Int) < (P.length:Int)) = true := decide_eq_true (by omega)
      clear hx hid g1 g2 hl hq hcr
      have HB3 : Aside0 (∀ w3, w3 = wr.alloc (.cells (madeCells #[.int .i64 0] ((q + 1) * 1)) 3) → w3.heap[wr.heap.size]? = some (.cells (frow (fun i => x + (i : Int)) (q + 1) 0) 3 (0, 0))) := ⟨fun w3 e => by rw [e, heap_alloc_new, frow_zero]⟩
      have hto : ((1 : Int) + (q : Int)).toNat = q + 1 := by omega
      go_wp2_with (first | (at_lookup; refine wpList_lookup rfl _ _ _ false rfl rfl x rfl HIX.out.mp (keyInt Try.underlying21) Try.underlying59 (.int .i32 0) zeroI32 ?_; rw [if_neg (by decide), HL.out]) | (at_make; refine wpList_make rfl _ _ _ rfl 3 (.int .i64 0) 1 8 Try.underlying23 info3 .i32 .i32 (1 + (q : Int)) (1 + (q : Int)) rfl rfl (by omega) (by omega) (by omega) (by omega) ?_; intro w3 e3; rw [hto] at e3 ⊢; have HR3 := Aside0.mk (HB3.out w3 e3); have HC3 : Aside0 (Chg [] wr w3) := ⟨by rw [e3]; exact (Chg.refl [] wr).alloc _⟩; clear e3 HB3))
      clear c1 e1 e2
      obtain ⟨wo, rfl⟩ : ∃ wo, wo = wr := ⟨_, rfl⟩
      go_loopw [11] (fun v11 wr => ∃ j : Nat, v11 = .int .i64 j ∧ Aside0 (j ≤ q + 1) ∧ Aside0 (wr.heap[wo.heap.size]? = some (.cells (frow (fun i => x + (i : Int)) (q + 1) j) 3 (0, 0))) ∧ Aside0 (Chg [wo.heap.size] w3 wr)) (fun v11 _ => q + 1 - (intOf v11).toNat)
      case atStart => exact ⟨0, rfl, ⟨Nat.zero_le _⟩, HR3, ⟨Chg.refl _ _⟩⟩
      case round =>
        clear HR3
        obtain ⟨j, rfl, HJ0, HR, HCR⟩ := hrel
        by_cases hjt : j < q + 1
        · have c1 : wr.cell? ⟨wo.heap.size, j, none⟩ = some (.int .i64 0) := by
            simp [World.cell?, HR.out, frow_get, hjt]
          have f1 : wr.frozen? ⟨wo.heap.size, j, none⟩ = false := by simp [World.frozen?, HR.out]
          have k3 : decide ((0:Int) ≤ (j:Int)) = true := decide_eq_true (by omega)
          have k4 : decide ((j:Int) < (q:Int) + 1) = true := decide_eq_true (by omega)
          have HR4 : Aside0 ((wr.setCell ⟨wo.heap.size, j, none⟩ (.int .i64 (x + (j : Int)))).heap[wo.heap.size]? = some (.cells (frow (fun i => x + (i : Int)) (q + 1) (j + 1)) 3 (0, 0))) := ⟨by
            have := heap_put wr ⟨wo.heap.size, j, none⟩ _ _ _ (.int .i64 (x + (j : Int))) HR.out rfl
            rw [this, ← frow_set (fun i => x + (i : Int)) (q + 1) j]⟩
          go_wp2_with fail
          go_roundw
          case rel => exact ⟨j + 1, by go_num, ⟨by omega⟩, HR4, ⟨HCR.out.setCell (.inl (by simp)) _⟩⟩
          case measure => simp [intOf]; omega
        · have hj : j = q + 1 := by have := HJ0.out; omega
          have hrow := HR.out
          rw [hj] at hrow
          have hrw := frow_row hrow (by omega)
          have hso : w2.heap.size ≤ wo.heap.size := HB.out.size
          have hcx : Chg [wo.heap.size] wo wr := (HC3.out.mono (by simp)).trans HCR.out
          have hbo : Below wo.heap.size wo wr := hcx.toBelow (Nat.le_refl _) (by simp)
          have HB2 : Aside0 (Below w2.heap.size w2 wr) := ⟨HB.out.trans (hbo.mono hso)⟩
          have HR2 : Aside0 ((Kd.int .i64).R 3 wr w2.heap.size (fun k_ => some k_ = (Value.slice (some ⟨wo.heap.size, 0, none⟩) (q + 1) (q + 1)).ownBlock) (.slice (some ⟨wo.heap.size, 0, none⟩) (q + 1) (q + 1)) (span kw x)) := ⟨by
            rw [HSP.out]
            exact R_of_row (enc := Value.int .i64) hrw (fun g hg => ⟨by have hg : wo.heap.size = g := (by injection hg); omega, hg.symm⟩)⟩
          have hlt5 := Kd.S_lt HS.out
          have HS2 : Aside0 (Kd.S (Kd.slice 3 (Kd.int .i64)) 23 wr w2.heap.size (fun k_ => True ∧ ¬ some k_ = (Value.slice (some ⟨wo.heap.size, 0, none⟩) (q + 1) (q + 1)).ownBlock) (.slice A5 i c5) (spans kw (P.take i))) := ⟨Kd.S_mono (Kd.S_below (Kd.S_bound HS.out) hbo) (fun k hk => ⟨trivial, fun e => by
            have e : k = wo.heap.size := (by injection e)
            have := hk.2.2.1
            omega⟩)⟩
          have HNB : Aside0 (∀ k, some k = (Value.slice (some ⟨wo.heap.size, 0, none⟩) (q + 1) (q + 1)).ownBlock → some k ≠ (Value.slice A5 i c5).ownBlock) := ⟨fun k e e2 => by
            have e : k = wo.heap.size := (by injection e)
            have := hlt5 k e2.symm
            omega⟩
          have HSL : Aside0 ((spans kw (P.take i)).length = i) := ⟨by unfold spans; rw [List.length_map, List.length_take]; omega⟩
          have k3 : decide (j < q + 1) = false := decide_eq_false hjt
          have k4 : decide ((j:Int) < (q:Int) + 1) = false := decide_eq_false (by omega)
          clear hj hrow hrw hcx hbo hlt5 HS HB HR HJ0 HCR
          go_wp2_with (at_builtin; refine Kd.S_append (Kd.slice 3 (Kd.int .i64)) (w0 := w2) (W := wr) w2.heap.size rfl _ _ 40 23 (.slice none 0 0) 24 rfl Try.underlying40 info23 rfl (by decide) (by omega) (.slice A5 i c5) (spans kw (P.take i)) (span kw x) [.slice (some ⟨wo.heap.size, 0, none⟩) (q + 1) (q + 1)] (fun _ => True) (fun k_ => some k_ = (Value.slice (some ⟨wo.heap.size, 0, none⟩) (q + 1) (q + 1)).ownBlock) rfl rfl ?aP (fun k_ hk_ => ⟨trivial, HNB.out k_ hk_⟩) (fun _ _ => trivial) HS2.out HB2.out ?aS ?aL ?_; (case aP => exact Kd.M_row HR2.out); (case aS => exact HB2.out.size); (case aL => (rw [HSL.out]; omega)); intro v6 w6 hs6 hb6 hg6 hat6; have HS6 := Aside0.mk hs6; have HB6 := Aside0.mk hb6; clear hs6 hb6 hg6 hat6)
          go_roundw
          case rel => exact ⟨i + 1, by go_num, ⟨by omega⟩, ⟨by rw [HTK.out]; exact HS6.out⟩, HB6⟩
          case measure => simp [intOf]; omega
    · have hi : i = P.length := by have := HI.out; omega
      have hS := HS.out
      rw [hi, List.take_length] at hS
      have HSX := Aside0.mk hS
      have k1 : decide (i < P.length) = false := decide_eq_false hlt
      have k2 : decide ((i:Int) < (P.length:Int)) = false := decide_eq_false (by omega)
      have HCX : Aside0 (Chg [] w wr) := ⟨HC2.out.trans hcr⟩
      have HVB := Aside0.mk (HT.out.b.chg hcr (by simp))
      clear hi hS hcr
      go_wp2_with fail
      go_ret2
      refine ⟨_, _, rfl, by rw [← HP.out]; exact HVB.out, ?_, HCX.out, fun g hg => Nat.le_trans HW1.out (HT.out.nb g hg)⟩
      rw [← HP.out]
      refine Kd.S_lower (Kd.S_mono (Kd.S_bound HSX.out) (fun k hk e => ?_)) HC2.out.size
      have := (HT.out.b.block e.symm).1
      have := hk.2.1
      omega
end Go.Proofs.Ytddcjmdcpkmnjab.Da
namespace Go.Proofs.Ytddcjmdcpkmnjab.Da
open Go.RowKit Go.Proofs.YtddcjmdcpkmnjabW.PrintWords Go.Proofs.YtddcjmdcpkmnjabW.PrintLast Go.Proofs.YtddcjmdcpkmnjabW.PrintMore Go.Proofs.Ytddcjmdcpkmnjab.Gn
theorem indexPrefixes_idle (p q r : Value) (w : World) :
    CallsD Try.prog 36 #[p, q, r] .returning w fun e u' w' => e = .returned (.tuple #[]) ∧ u' = .returning ∧ w' = w := by
  refine callsD_of_wpS Try.func36 rfl fun c₀ cs hu => ?_
  apply wpS_seq
  apply wpS_region
  simp [wpOpsS, go_sem, recoverD, hu, Try.ntmps36, Exit.thenS]
  refine wpS_cond (t := false) (by simp [Act.eval, Array.replicate]) ?_
  simp only [Bool.false_eq_true, if_false]
  refine wpS_of_wp (wp_skip ?_)
  cases c₀
  simp_all [bodyPostS, results, Try.results36]
def IpAll (kw : List ByteArray) (s : ByteArray) (w : World) (e : Ending) (w' : World) : Prop :=
  ∃ va vb, e = .returned (.tuple #[va, vb, .bool true]) ∧ ORow w' 3 va (snds (pfx kw (iota kw.length) s s.size)) ∧ Kd.S (Kd.slice 3 (Kd.int .i64)) 23 w' w.heap.size (fun k_ => some k_ ≠ va.ownBlock) vb (spans kw (pfx kw (iota kw.length) s s.size)) ∧ Chg [] w w' ∧ ∀ g, va.ownBlock = some g → w.heap.size ≤ g
set_option maxHeartbeats 2000000 in
set_option maxRecDepth 100000 in
theorem indexPrefixes_calls (w : World) (A0 : Option Addr) (c0 : Nat) (kw : List ByteArray) (s : ByteArray) (hk : Kd.C Kd.string w A0 kw.length kw) (hg : goodIB kw) (hs : textB s) :
    Calls Try.prog 20 #[.slice A0 kw.length c0, .string s] w (IpAll kw s w) := by
  have hmf : ∀ (fn : Fn) (first cap : Array Value) (w : World), (Instr.makeFunc fn first cap).run Try.prog w = .ok (.func fn first cap) w := fun _ _ _ _ => rfl
  obtain ⟨v1, v2, v3, hc, hsz⟩ := three_vars w (.slice none 0 0) (.slice none 0 0) (.bool false) 23 40 4
  have HK := Aside0.mk (Kd.C_below hk (hc.toBelow (Nat.le_refl _) (by simp)))
  have V1 := Aside0.mk v1
  have V2 := Aside0.mk v2
  have V3 := Aside0.mk v3
  have HC := Aside0.mk hc
  have HSZ := Aside0.mk hsz
  have HS := Aside0.mk hs
  have HG := Aside0.mk hg.good
  have hpos := hg.1
  have hmost := hg.2.1
  clear v1 v2 v3 hc hsz hk hg hs
  go_enter_defers Try.func20, Try.ntmps20
  go_upto_region 2 with fail
  generalize ((w.alloc (.cells #[.slice none 0 0] 23)).alloc (.cells #[.slice none 0 0] 40)).alloc (.cells #[.bool false] 4) = w0 at *
  go_wp2_with (at_builtin; refine wpList_appendAll (enc := Value.string) (he := fun _ => rfl) rfl _ _ 22 rfl 9 (.string ⟨#[]⟩) 16 Try.underlying22 info9 rfl (.slice (some ⟨w0.heap.size, 0, none⟩) 0 0) [] rfl (ORow.made0 _ _) A0 c0 kw rfl ?c1 hpos ?c2 ?c3 ?_; (case c1 => exact Kd.C_below HK.out ((Below.refl _ _).alloc (Nat.le_refl _) _)); (case c2 => (simp; omega)); (case c3 => (unfold maxLen; simp; omega)); intro v2 w2 hr2 hc2 ho2; obtain ⟨gk, ck, rfl, hck⟩ := own_slice (n := kw.length) hr2 (by intro q; have := congrArg List.length q; simp only [List.nil_append, List.length_map, List.length_nil] at this; omega) (by simp); have HB := Aside0.mk (bix_calls w2 gk ck kw hr2 HG.out hck); have HC2 : Aside0 (Chg [] w0 w2) := ⟨((Chg.refl [] w0).alloc _).above hc2 (fun g hg => .inr (by have : g = w0.heap.size := (by simpa [Value.ownBlock] using hg); omega))⟩; clear hr2 hc2 ho2)
  refine HB.out.mono ?_
  rintro e w3 ⟨b, m, B, C, r, keys, ids, S, rfl, hrow, hm, hT, hmp, hix, hc3⟩
  have hx3 : IxW w3 kw b m B C r keys ids S := ⟨hrow, hm, hT, hmp, hix⟩
  have V := Aside0.mk (Var2.new w3 61 (.slice (some ⟨b, 0, none⟩) m m) (.map (some r)))
  have hc4 : Chg [] w3 (w3.alloc (.cells #[.slice (some ⟨b, 0, none⟩) m m, .map (some r)] 61)) := (Chg.refl [] w3).alloc _
  have hc04 : Chg [] w0 (w3.alloc (.cells #[.slice (some ⟨b, 0, none⟩) m m, .map (some r)] 61)) := (HC2.out.trans hc3).trans hc4
  have HX := Aside0.mk (hx3.chg hc4)
  have HSE := Aside0.mk (ixprefixes_calls _ kw b m B C r keys ids S s HX.out hpos hmost HS.out.1 HS.out.2)
  have V1' := Aside0.mk (V1.out.chg hc04 (by simp))
  have V2' := Aside0.mk (V2.out.chg hc04 (by simp))
  have V3' := Aside0.mk (V3.out.chg hc04 (by simp))
  have HC4 : Aside0 (Chg [] w (w3.alloc (.cells #[.slice (some ⟨b, 0, none⟩) m m, .map (some r)] 61))) := ⟨HC.out.trans hc04⟩
  have d1 := V.out.cell0
  have d2 := V.out.cell1
  clear hrow hm hT hmp hix hc3 hx3 hc4 hc04 HB V1 V2 V3 HC HC2
  go_wp2_with fail
  generalize w3.alloc (.cells #[.slice (some ⟨b, 0, none⟩) m m, .map (some r)] 61) = w4 at *
  refine HSE.out.mono ?_
  rintro e w5 ⟨va, vb, rfl, hv, hS, hc5, hvb⟩
  obtain ⟨A4, c4, e4, _⟩ := hv.slice
  obtain ⟨A5, c5, e5⟩ := Kd.R_slice (Kd.S_R hS)
  obtain ⟨n4, HN4⟩ : ∃ n4, n4 = (snds (pfx kw (iota kw.length) s s.size)).length := ⟨_, rfl⟩
  obtain ⟨n5, HN5⟩ : ∃ n5, n5 = (spans kw (pfx kw (iota kw.length) s s.size)).length := ⟨_, rfl⟩
  rw [← HN4] at e4
  rw [← HN5] at e5
  subst e4 e5
  have V1 := Aside0.mk (V1'.out.chg hc5 (by simp))
  have V2 := Aside0.mk (V2'.out.chg hc5 (by simp))
  have V3 := Aside0.mk (V3'.out.chg hc5 (by simp))
  have HV := Aside0.mk hv
  have HZ4 : Aside0 (w.heap.size + 3 ≤ w4.heap.size) := ⟨by have := V3'.out.lt; omega⟩
  have HS4 := Aside0.mk (Kd.S_bound hS)
  have HVB := Aside0.mk hvb
  have HC5 : Aside0 (Chg [] w w5) := ⟨HC4.out.trans hc5⟩
  have e1 := V1.out.cell
  have e2 := V2.out.cell
  have f1 := V1.out.frozen 0 none
  have f2 := V2.out.frozen 0 none
  have hn : w.heap.size ≠ w.heap.size + 1 := by omega
  have hn' : w.heap.size + 1 ≠ w.heap.size := by omega
  clear hv hS hc5 hvb HN4 HN5 HSE V1' V2' V3' HC4 d1 d2 V HX
  go_wp2_with fail
  have V1x : Aside0 (Var ((w5.setCell ⟨w.heap.size, 0, none⟩ (.slice A4 n4 c4)).setCell ⟨w.heap.size + 1, 0, none⟩ (.slice A5 n5 c5)) w.heap.size 23 (.slice A4 n4 c4)) := ⟨(V1.out.set _).setOther (by show w.heap.size ≠ w.heap.size + 1; omega) _⟩
  have V2x : Aside0 (Var ((w5.setCell ⟨w.heap.size, 0, none⟩ (.slice A4 n4 c4)).setCell ⟨w.heap.size + 1, 0, none⟩ (.slice A5 n5 c5)) (w.heap.size + 1) 40 (.slice A5 n5 c5)) := ⟨(V2.out.setOther (by show w.heap.size + 1 ≠ w.heap.size; omega) _).set _⟩
  have V3x : Aside0 (Var ((w5.setCell ⟨w.heap.size, 0, none⟩ (.slice A4 n4 c4)).setCell ⟨w.heap.size + 1, 0, none⟩ (.slice A5 n5 c5)) (w.heap.size + 1 + 1) 4 (.bool false)) := ⟨(V3.out.setOther (by show w.heap.size + 1 + 1 ≠ w.heap.size; omega) _).setOther (by show w.heap.size + 1 + 1 ≠ w.heap.size + 1; omega) _⟩
  have HC6 : Aside0 (Chg [] w ((w5.setCell ⟨w.heap.size, 0, none⟩ (.slice A4 n4 c4)).setCell ⟨w.heap.size + 1, 0, none⟩ (.slice A5 n5 c5))) := ⟨(HC5.out.setCell (.inr (Nat.le_refl _)) _).setCell (.inr (by show w.heap.size ≤ w.heap.size + 1; omega)) _⟩
  have HK6 : Aside0 (Chg [w.heap.size, w.heap.size + 1, w.heap.size + 1 + 1] w5 ((w5.setCell ⟨w.heap.size, 0, none⟩ (.slice A4 n4 c4)).setCell ⟨w.heap.size + 1, 0, none⟩ (.slice A5 n5 c5))) := ⟨((Chg.refl _ w5).setCell (.inl (by simp)) _).setCell (.inl (by simp)) _⟩
  clear V1 V2 V3 HC5 e1 e2 f1 f2
  generalize (w5.setCell ⟨w.heap.size, 0, none⟩ (.slice A4 n4 c4)).setCell ⟨w.heap.size + 1, 0, none⟩ (.slice A5 n5 c5) = w6 at *
  have d1 := V1x.out.cell
  have d2 := V2x.out.cell
  have d3 := V3x.out.cell
  have f1 := V1x.out.frozen 0 none
  have f2 := V2x.out.frozen 0 none
  have f3 := V3x.out.frozen 0 none
  have hn2 : w.heap.size + 1 + 1 ≠ w.heap.size := by omega
  have hn3 : w.heap.size + 1 + 1 ≠ w.heap.size + 1 := by omega
  have hn4 : w.heap.size ≠ w.heap.size + 1 + 1 := by omega
  have hn5 : w.heap.size + 1 ≠ w.heap.size + 1 + 1 := by omega
  go_region_held3 (fun w' => w'.cell? ⟨w.heap.size, 0, none⟩ = some (.slice A4 n4 c4) ∧ w'.cell? ⟨w.heap.size + 1, 0, none⟩ = some (.slice A5 n5 c5)) (first | (refine ⟨?_, ?_⟩ <;> (refine keep_cell_d ?_ (by simp)) <;> repeat (first | assumption | refine keep_cell ?_ (by simp))) | go_keep | assumption) (fail)
  all_goals go_wp2_with fail
  all_goals refine leaves_cons (f := 36) (args := #[.pointer (some ⟨w.heap.size, 0, none⟩), .pointer (some ⟨w.heap.size + 1, 0, none⟩), .pointer (some ⟨w.heap.size + 1 + 1, 0, none⟩)]) (by simp) (by simp [go_sem]) ?_
  all_goals refine (indexPrefixes_idle _ _ _ _).mono ?_
  all_goals rintro e u' w9 ⟨rfl, rfl, rfl⟩
  have HK7 := (((HK6.out.setCell (a := ⟨w.heap.size, 0, none⟩) (.inl (by simp)) (.slice A4 n4 c4)).setCell (a := ⟨w.heap.size + 1, 0, none⟩) (.inl (by simp)) (.slice A5 n5 c5)).setCell (a := ⟨w.heap.size + 1 + 1, 0, none⟩) (.inl (by simp)) (.bool true)).drew
  have HC7 := (((HC6.out.setCell (a := ⟨w.heap.size, 0, none⟩) (.inr (Nat.le_refl _)) (.slice A4 n4 c4)).setCell (a := ⟨w.heap.size + 1, 0, none⟩) (.inr (by show w.heap.size ≤ w.heap.size + 1; omega)) (.slice A5 n5 c5)).setCell (a := ⟨w.heap.size + 1 + 1, 0, none⟩) (.inr (by show w.heap.size ≤ w.heap.size + 1 + 1; omega)) (.bool true)).drew
  have e1 := keep_cell (a := ⟨w.heap.size + 1 + 1, 0, none⟩) (y := .bool true) (keep_cell (a := ⟨w.heap.size + 1, 0, none⟩) (y := .slice A5 n5 c5) (keep_cell (a := ⟨w.heap.size, 0, none⟩) (y := .slice A4 n4 c4) d1 (fun _ => rfl)) (by simp)) (by simp)
  have e2 := keep_cell (a := ⟨w.heap.size + 1 + 1, 0, none⟩) (y := .bool true) (keep_cell (a := ⟨w.heap.size + 1, 0, none⟩) (y := .slice A5 n5 c5) (keep_cell (a := ⟨w.heap.size, 0, none⟩) (y := .slice A4 n4 c4) d2 (by simp)) (fun _ => rfl)) (by simp)
  have e3 := World.cell?_setCell_same ((w6.setCell ⟨w.heap.size, 0, none⟩ (.slice A4 n4 c4)).setCell ⟨w.heap.size + 1, 0, none⟩ (.slice A5 n5 c5)) ⟨w.heap.size + 1 + 1, 0, none⟩ (.bool true) (keep_cell (a := ⟨w.heap.size + 1, 0, none⟩) (y := .slice A5 n5 c5) (keep_cell (a := ⟨w.heap.size, 0, none⟩) (y := .slice A4 n4 c4) d3 (by simp)) (by simp))
  generalize ((w6.setCell ⟨w.heap.size, 0, none⟩ (.slice A4 n4 c4)).setCell ⟨w.heap.size + 1, 0, none⟩ (.slice A5 n5 c5)).setCell ⟨w.heap.size + 1 + 1, 0, none⟩ (.bool true) = w7 at *
  have hz4 := HZ4.out
  have hne : ∀ g, w4.heap.size ≤ g → g ∉ [w.heap.size, w.heap.size + 1, w.heap.size + 1 + 1] := fun g hg => by simp; omega
  refine ⟨.tuple #[.slice A4 n4 c4, .slice A5 n5 c5, .bool true], ?_, .slice A4 n4 c4, .slice A5 n5 c5, rfl, HV.out.chg HK7 (fun g hg => hne g (HVB.out g hg)), ?_, HC7, fun g hg => by have := HVB.out g hg; omega⟩
  · simp [results, Try.results20, go_sem, e1, e2, e3]
  · exact Kd.S_lower (Kd.S_mono (Kd.S_step HS4.out (fun k hk hlt => HK7.block k hlt (hne k hk.2.1))) (fun k hk => hk.1)) (by omega)
end Go.Proofs.Ytddcjmdcpkmnjab.Da
namespace Go.Proofs.Ytddcjmdcpkmnjab.P
open Go.RowKit Go.Proofs.YtddcjmdcpkmnjabW.PrintWords Go.Proofs.YtddcjmdcpkmnjabW.PrintLast Go.Proofs.YtddcjmdcpkmnjabW.PrintMore Go.Proofs.Ytddcjmdcpkmnjab.Gn Go.Proofs.Ytddcjmdcpkmnjab.Da
def impl_IndexPrefixes.f (l0 : List ByteArray) (s : ByteArray) : Option (List Int × List (List Int) × Bool) := if goodIB l0 ∧ textB s then some ((pfx l0 (iota l0.length) s s.size).map (·.2), spans l0 (pfx l0 (iota l0.length) s s.size), true) else none
theorem impl_IndexPrefixes.calls (A0 : Option Addr) (c0 : Nat) (l0 : List ByteArray) (s : ByteArray) (r1 : List Int) (r2 : List (List Int)) (r3 : Bool) (w : World) (hr0 : Kd.C Kd.string w A0 l0.length l0) (hc0 : l0.length ≤ c0) (h : impl_IndexPrefixes.f l0 s = some (r1, r2, r3)) :
    Calls Try.prog 20 #[.slice A0 l0.length c0, .string s] w fun e w' => ∃ v0_ v1_ : Value, e = .returned (.tuple #[v0_, v1_, .bool r3]) ∧ Kd.R (Kd.int .i64) 3 w' w.heap.size (fun _ => True) v0_ r1 ∧ Kd.S (Kd.slice 3 (Kd.int .i64)) 23 w' w.heap.size (fun k_ => some k_ ≠ (v0_ : Value).ownBlock) v1_ r2 ∧ Below w.heap.size w w' := by
  unfold impl_IndexPrefixes.f at h
  split at h
  case isFalse => cases h
  rename_i hok
  injection h with h
  simp only [Prod.mk.injEq] at h
  obtain ⟨rfl, rfl, rfl⟩ := h
  refine (indexPrefixes_calls w A0 c0 l0 s hr0 hok.1 hok.2).mono ?_
  rintro e w' ⟨va, vb, rfl, hv, hS, hc, hb⟩
  refine ⟨va, vb, rfl, R_of_row (enc := Value.int .i64) ?_ (fun g hg => ⟨hb g hg, trivial⟩), hS, hc.toBelow (Nat.le_refl _) (by simp)⟩
  unfold snds at hv
  rw [List.map_map]
  exact hv
end Go.Proofs.Ytddcjmdcpkmnjab.P
