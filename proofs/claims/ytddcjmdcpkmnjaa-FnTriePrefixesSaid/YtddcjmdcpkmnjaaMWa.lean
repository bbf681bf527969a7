/- The double array in memory: a variable that holds a slice, and its row of cells. The double array: a cell is taken out of the list of free ones (setCheck). The double array: setBase of the root, or of a used cell. The double array: init. The double array: seekAndMark. The double array: truncate. -/
import Derived.Test.YtddcjmdcpkmnjaaProg
import Derived.Test.YtddcjmdcpkmnjaaWWords
import Derived.Test.YtddcjmdcpkmnjaaMPl
import Derived.Test.YtddcjmdcpkmnjaaMGn
import Derived.WalkKit
import Derived.ProofKit
import Derived.Below
import Derived.Laws.NewBlocks
import Derived.Deep.QuietTactic
import Derived.BigQuiet
import Derived.WalkSpells
import Derived.StillTailTactics
import Derived.Outline
import Derived.LoopTactic
import Derived.Deep.Cut
import Derived.WalkMore
import Derived.ScopeJumps
set_option linter.unusedVariables false
namespace Go.Proofs.Ytddcjmdcpkmnjaa.Da
open Go.RowKit Go.Proofs.Ytddcjmdcpkmnjaa.Gn

/-- The cells of n pairs. -/
def row (n : Nat) (B C : Nat → Int) : Array Value := Array.ofFn (n := n * 2) fun i => .int .i32 (if i.val % 2 = 0 then B (i.val / 2) else C (i.val / 2))
/-- The variable at block v holds the slice of block b, whose cells are n pairs. -/
structure At (w : World) (v b n : Nat) (B C : Nat → Int) : Prop where
  ne : v ≠ b
  var : w.heap[v]? = some (.cells #[.slice (some ⟨b, 0, none⟩) n n] 48 (0, 0))
  row : w.heap[b]? = some (.cells (Da.row n B C) 71 (0, 0))

theorem row_size (n : Nat) (B C : Nat → Int) : (Da.row n B C).size = n * 2 := by simp [Da.row]
theorem row_base (n : Nat) (B C : Nat → Int) (p : Nat) (h : p < n) : (Da.row n B C)[p * 2]? = some (.int .i32 (B p)) := by
  simp [Da.row, show p * 2 < n * 2 by omega]
theorem row_check (n : Nat) (B C : Nat → Int) (p : Nat) (h : p < n) : (Da.row n B C)[p * 2 + 1]? = some (.int .i32 (C p)) := by
  have h1 : (p * 2 + 1) % 2 = 1 := by omega
  have h2 : (p * 2 + 1) / 2 = p := by omega
  simp [Da.row, show p * 2 + 1 < n * 2 by omega, h1, h2]
theorem At.cell {w : World} {v b n : Nat} {B C : Nat → Int} (h : At w v b n B C) : w.cell? ⟨v, 0, none⟩ = some (.slice (some ⟨b, 0, none⟩) n n) := by
  simp [World.cell?, h.var]
theorem At.base {w : World} {v b n : Nat} {B C : Nat → Int} (h : At w v b n B C) (p : Nat) (hp : p < n) : w.cell? ⟨b, p * 2, none⟩ = some (.int .i32 (B p)) := by
  simp [World.cell?, h.row, row_base n B C p hp]
theorem At.check {w : World} {v b n : Nat} {B C : Nat → Int} (h : At w v b n B C) (p : Nat) (hp : p < n) : w.cell? ⟨b, p * 2 + 1, none⟩ = some (.int .i32 (C p)) := by
  simp [World.cell?, h.row, row_check n B C p hp]
theorem At.frozen {w : World} {v b n : Nat} {B C : Nat → Int} (h : At w v b n B C) (o : Nat) (s : Option Nat) : w.frozen? ⟨b, o, s⟩ = false := by
  simp [World.frozen?, h.row]
theorem row_get (n : Nat) (B C : Nat → Int) (i : Nat) : (Da.row n B C)[i]? = if i < n * 2 then some (.int .i32 (if i % 2 = 0 then B (i / 2) else C (i / 2))) else none := by
  by_cases h : i < n * 2
  · rw [if_pos h]; simp [Da.row, h]
  · rw [if_neg h]; simp [Da.row]; omega
theorem row_setBase (n : Nat) (B C : Nat → Int) (p : Nat) (x : Int) : (Da.row n B C).setIfInBounds (p * 2) (.int .i32 x) = Da.row n (upd B p x) C := by
  apply Array.ext_getElem?
  intro i
  rw [Array.getElem?_setIfInBounds, row_get, row_get, row_size]
  by_cases e : p * 2 = i
  · subst e
    simp [upd]
  · rw [if_neg e]
    by_cases e2 : i % 2 = 0
    · rw [if_pos e2, if_pos e2, upd_other _ _ (by omega)]
    · rw [if_neg e2, if_neg e2]
theorem row_setCheck (n : Nat) (B C : Nat → Int) (p : Nat) (x : Int) : (Da.row n B C).setIfInBounds (p * 2 + 1) (.int .i32 x) = Da.row n B (upd C p x) := by
  apply Array.ext_getElem?
  intro i
  rw [Array.getElem?_setIfInBounds, row_get, row_get, row_size]
  by_cases e : p * 2 + 1 = i
  · subst e
    have h1 : (p * 2 + 1) % 2 = 1 := by omega
    have h2 : (p * 2 + 1) / 2 = p := by omega
    simp [upd, h1, h2]
  · rw [if_neg e]
    by_cases e2 : i % 2 = 0
    · rw [if_pos e2, if_pos e2]
    · rw [if_neg e2, if_neg e2, upd_other _ _ (by omega)]
theorem At.setBase {w : World} {v b n : Nat} {B C : Nat → Int} (h : At w v b n B C) (p : Nat) (x : Int) : At (w.setCell ⟨b, p * 2, none⟩ (.int .i32 x)) v b n (upd B p x) C :=
  ⟨h.ne, (Below.heap_setCell w _ _ v h.ne).trans h.var, by rw [heap_put w ⟨b, p * 2, none⟩ _ _ _ _ h.row rfl, row_setBase]⟩
theorem At.setCheck {w : World} {v b n : Nat} {B C : Nat → Int} (h : At w v b n B C) (p : Nat) (x : Int) : At (w.setCell ⟨b, p * 2 + 1, none⟩ (.int .i32 x)) v b n B (upd C p x) :=
  ⟨h.ne, (Below.heap_setCell w _ _ v h.ne).trans h.var, by rw [heap_put w ⟨b, p * 2 + 1, none⟩ _ _ _ _ h.row rfl, row_setCheck]⟩
theorem At.drew {w : World} {v b n : Nat} {B C : Nat → Int} (h : At w v b n B C) : At w.drew v b n B C := ⟨h.ne, h.var, h.row⟩
theorem At.drewN {w : World} {v b n : Nat} {B C : Nat → Int} (h : At w v b n B C) (k : Nat) : At (w.drewN k) v b n B C := ⟨h.ne, h.var, h.row⟩
theorem At.chg {S : List Nat} {w w' : World} {v b n : Nat} {B C : Nat → Int} (h : At w v b n B C) (hc : Chg S w w') (h1 : v ∉ S) (h2 : b ∉ S) : At w' v b n B C :=
  ⟨h.ne, (hc.block v (Array.getElem?_eq_some_iff.1 h.var).1 h1).trans h.var, (hc.block b (Array.getElem?_eq_some_iff.1 h.row).1 h2).trans h.row⟩
theorem At.lt {w : World} {v b n : Nat} {B C : Nat → Int} (h : At w v b n B C) : v < w.heap.size ∧ b < w.heap.size := ⟨(Array.getElem?_eq_some_iff.1 h.var).1, (Array.getElem?_eq_some_iff.1 h.row).1⟩
end Go.Proofs.Ytddcjmdcpkmnjaa.Da
namespace Go.Proofs.Ytddcjmdcpkmnjaa.Da
open Go.RowKit Go.Proofs.YtddcjmdcpkmnjaaW.PrintWords Go.Proofs.Ytddcjmdcpkmnjaa.Gn
theorem wrap_neg {x : Int} (h0 : 0 ≤ x) (h : x ≤ 2000000) : IntKind.i64.wrap (-x) = -x := by simp [IntKind.wrap, IntKind.signed, IntKind.bits]; omega
theorem wrap32 {x : Int} (h0 : 0 ≤ x) (h : x ≤ 2000000) : IntKind.i32.wrap x = x := by simp [IntKind.wrap, IntKind.signed, IntKind.bits]; omega
theorem wrap32n {x : Int} (h0 : 0 ≤ x) (h : x ≤ 2000000) : IntKind.i32.wrap (-x) = -x := by simp [IntKind.wrap, IntKind.signed, IntKind.bits]; omega
theorem still_tail {P : Program} {id : Nat} {Q : Exit → Act → World → Prop} {a : Act} {w : World} {l : List Oper} (n : Nat) (hm : P.follows .mixedOrders = true) (hB : Region.lexTailB .any l.toArray n = true)
    (h : ∀ w2, w2 = w.drew → wpStill P l.toArray w2 (fun a' => wpList P l.toArray Q (l.drop n) a' w2) (l.take n) a) : (Code.region id l.toArray true).wp P Q a w :=
  wp_region_still_tail n hm hB (h _ rfl)
set_option maxHeartbeats 1000000 in
set_option maxRecDepth 100000 in
theorem setCheck_calls (w : World) (v b n : Nat) (B C : Nat → Int) (p q : Nat) (h : At w v b n B C) (hp : p < n) (hp1 : 1 ≤ p) (hq : q < 100000) (hn : n < 100000) (pr nx : Nat) (hpr : B p = -(pr : Int)) (hnx : C p = -(nx : Int)) (hpr2 : pr < n) (hnx2 : nx < n) (hne : nx ≠ pr) (hpp : pr ≠ p) (hpn : nx ≠ p) (c0 : Nat) (hh : C 0 = -(c0 : Int)) (hc0 : c0 < n) :
    Calls Try.prog 59 #[.pointer (some ⟨v, 0, none⟩), .int .i64 p, .int .i64 q] w fun e w' => e = .returned (.tuple #[]) ∧ At w' v b n (upd B nx (B p)) (upd (upd (head C p (C p)) pr (C p)) p q) ∧ Chg [b] w w' := by
  have H := Aside0.mk h
  have h0 := h.check 0 (by omega)
  have h1 := h.cell
  have h2 := h.base p hp
  have h3 := h.check p hp
  have HPR := Aside0.mk hpr
  have HNX := Aside0.mk hnx
  have HH := Aside0.mk hh
  rw [hpr] at h2
  rw [hnx] at h3
  rw [hh] at h0
  have h4 : decide ((0:Int) ≤ (p:Int)) = true := decide_eq_true (by omega)
  have h5 : decide ((p:Int) < (n:Int)) = true := decide_eq_true (by omega)
  have h6 : decide (p < n) = true := decide_eq_true (by omega)
  have h7 : (-(pr:Int) == -(nx:Int)) = false := beq_eq_false_iff_ne.2 (by omega)
  have h71 : ((pr:Int) == (nx:Int)) = false := beq_eq_false_iff_ne.2 (by omega)
  have h72 : (pr == nx) = false := beq_eq_false_iff_ne.2 (by omega)
  have h8 := wrap_neg (x := p) (by omega) (by omega)
  have h9 : decide ((pr:Int) < (n:Int)) = true := decide_eq_true (by omega)
  have h10 : decide ((nx:Int) < (n:Int)) = true := decide_eq_true (by omega)
  have h11 : IntKind.i32.wrap (q:Int) = q := wrap32 (by omega) (by omega)
  have h12 : decide ((0:Int) < (n:Int)) = true := decide_eq_true (by omega)
  have h13 : 0 < n := by omega
  have HO := Aside0.mk (Chg.refl [b] w)
  clear h hpr hnx hh
  by_cases hc : c0 = p
  case pos =>
    have g1 : (-(p:Int) == -(c0:Int)) = true := beq_iff_eq.2 (by omega)
    have g2 : ((p:Int) == (c0:Int)) = true := beq_iff_eq.2 (by omega)
    have g3 : (p == c0) = true := beq_iff_eq.2 (by omega)
    have HHD := Aside0.mk (show head C p (C p) = upd C 0 (C p) from if_pos (by rw [HH.out, hc]))
    go_enter Try.func59, Try.ntmps59
    go_wp2_with fail
    go_quiet (fail)
    go_wp2_with fail
    refine still_tail 12 (by kernel_rfl) (by kernel_rfl) ?_
    intro w2 e2
    have H2 : Aside0 (At w2 v b n B C) := ⟨by rw [e2]; exact (H.out.drewN _).drew⟩
    have HO2 : Aside0 (Chg [b] w w2) := ⟨by rw [e2]; exact (HO.out.drewN _).drew⟩
    clear e2 H HO h1 h2 h3 h0 g1 g2 g3
    have h1 := H2.out.cell
    have h3 := H2.out.check p hp
    rw [HNX.out] at h3
    have h0 := H2.out.check 0 (by omega)
    rw [HH.out] at h0
    have f0 := H2.out.frozen 1 none
    simp only [List.take_succ_cons, List.take_zero, List.drop_succ_cons, List.drop_zero]
    repeat still_step
    refine wpStill_nil ?_
    go_wp2_with fail
    refine still_tail 13 (by kernel_rfl) (by kernel_rfl) ?_
    intro w3 e2
    have H3 : Aside0 (At w3 v b n B (upd C 0 (C p))) := ⟨by rw [e2, HNX.out]; exact (H2.out.setCheck 0 _).drew⟩
    have HO3 : Aside0 (Chg [b] w w3) := ⟨by rw [e2]; exact (HO2.out.setCell (.inl (by simp)) _).drew⟩
    clear e2 H2 HO2 h1 h3 h0 f0
    have h1 := H3.out.cell
    have h2 := H3.out.base p hp
    rw [HPR.out] at h2
    have f0 := H3.out.frozen (nx * 2) none
    have h3 := H3.out.base nx hnx2
    simp only [List.take_succ_cons, List.take_zero, List.drop_succ_cons, List.drop_zero]
    repeat still_step
    refine wpStill_nil ?_
    go_wp2_with fail
    refine still_tail 13 (by kernel_rfl) (by kernel_rfl) ?_
    intro w4 e2
    have H4 : Aside0 (At w4 v b n (upd B nx (B p)) (upd C 0 (C p))) := ⟨by rw [e2, HPR.out]; exact (H3.out.setBase nx _).drew⟩
    have HO4 : Aside0 (Chg [b] w w4) := ⟨by rw [e2]; exact (HO3.out.setCell (.inl (by simp)) _).drew⟩
    clear e2 H3 HO3 h1 h2 h3 f0
    have h1 := H4.out.cell
    have h2 := H4.out.check p hp
    rw [upd_other _ _ (by omega), HNX.out] at h2
    have f0 := H4.out.frozen (pr * 2 + 1) none
    have f1 := H4.out.frozen (p * 2 + 1) none
    have h3 := H4.out.check pr hpr2
    simp only [List.take_succ_cons, List.take_zero, List.drop_succ_cons, List.drop_zero]
    repeat still_step
    refine wpStill_nil ?_
    go_wp2_with fail
    go_end0
    exact ⟨rfl, by rw [HHD.out, HNX.out]; rw [HNX.out] at H4; exact (H4.out.setCheck pr _).setCheck p _, (HO4.out.setCell (.inl (by simp)) _).setCell (.inl (by simp)) _⟩
  case neg =>
    have g1 : (-(p:Int) == -(c0:Int)) = false := beq_eq_false_iff_ne.2 (by omega)
    have g2 : ((p:Int) == (c0:Int)) = false := beq_eq_false_iff_ne.2 (by omega)
    have g3 : (p == c0) = false := beq_eq_false_iff_ne.2 (by omega)
    have HHD := Aside0.mk (show head C p (C p) = C from if_neg (by rw [HH.out]; omega))
    go_enter Try.func59, Try.ntmps59
    go_wp2_with fail
    go_quiet (fail)
    go_wp2_with fail
    refine still_tail 13 (by kernel_rfl) (by kernel_rfl) ?_
    intro w3 e2
    have H3 : Aside0 (At w3 v b n B C) := ⟨by rw [e2]; exact (H.out.drewN _).drew⟩
    have HO3 : Aside0 (Chg [b] w w3) := ⟨by rw [e2]; exact (HO.out.drewN _).drew⟩
    clear e2 H HO h1 h2 h3 h0 g1 g2 g3
    have h1 := H3.out.cell
    have h2 := H3.out.base p hp
    rw [HPR.out] at h2
    have f0 := H3.out.frozen (nx * 2) none
    have h3 := H3.out.base nx hnx2
    simp only [List.take_succ_cons, List.take_zero, List.drop_succ_cons, List.drop_zero]
    repeat still_step
    refine wpStill_nil ?_
    go_wp2_with fail
    refine still_tail 13 (by kernel_rfl) (by kernel_rfl) ?_
    intro w4 e2
    have H4 : Aside0 (At w4 v b n (upd B nx (B p)) C) := ⟨by rw [e2, HPR.out]; exact (H3.out.setBase nx _).drew⟩
    have HO4 : Aside0 (Chg [b] w w4) := ⟨by rw [e2]; exact (HO3.out.setCell (.inl (by simp)) _).drew⟩
    clear e2 H3 HO3 h1 h2 h3 f0
    have h1 := H4.out.cell
    have h2 := H4.out.check p hp
    rw [HNX.out] at h2
    have f0 := H4.out.frozen (pr * 2 + 1) none
    have f1 := H4.out.frozen (p * 2 + 1) none
    have h3 := H4.out.check pr hpr2
    simp only [List.take_succ_cons, List.take_zero, List.drop_succ_cons, List.drop_zero]
    repeat still_step
    refine wpStill_nil ?_
    go_wp2_with fail
    go_end0
    exact ⟨rfl, by rw [HHD.out, HNX.out]; exact (H4.out.setCheck pr _).setCheck p _, (HO4.out.setCell (.inl (by simp)) _).setCell (.inl (by simp)) _⟩
end Go.Proofs.Ytddcjmdcpkmnjaa.Da
namespace Go.Proofs.Ytddcjmdcpkmnjaa.Da
open Go.RowKit Go.Proofs.YtddcjmdcpkmnjaaW.PrintWords Go.Proofs.Ytddcjmdcpkmnjaa.Gn
theorem setBase_root (w : World) (v b n : Nat) (B C : Nat → Int) (p : Nat) (x : Int) (h : At w v b n B C) (hp : p = 0) :
    Calls Try.prog 58 #[.pointer (some ⟨v, 0, none⟩), .int .i64 p, .int .i64 x] w fun e w' => e = .returned (.tuple #[]) ∧ w = w' := by
  have h7 : ((p:Int) == 0) = true := beq_iff_eq.2 (by omega)
  have h71 : (p == 0) = true := beq_iff_eq.2 (by omega)
  clear h hp
  go_enter Try.func58, Try.ntmps58
  go_wp2
  refine bodyPost_ret (results_none rfl _ _ _) rfl ?_
  exact ⟨rfl, rfl⟩
set_option maxHeartbeats 1000000 in
set_option maxRecDepth 100000 in
theorem setBase_calls (w : World) (v b n : Nat) (B C : Nat → Int) (p x : Nat) (h : At w v b n B C) (hp : p < n) (hp1 : 1 ≤ p) (hx : x < 100000) (hn : n < 100000) (hu : 0 ≤ C p) :
    Calls Try.prog 58 #[.pointer (some ⟨v, 0, none⟩), .int .i64 p, .int .i64 x] w fun e w' => e = .returned (.tuple #[]) ∧ At w' v b n (upd B p x) C ∧ Chg [b] w w' := by
  have H := Aside0.mk h
  have h1 := h.cell
  have h2 := h.base p hp
  have h3 := h.check p hp
  have f0 := h.frozen (p * 2) none
  have h4 : decide ((0:Int) ≤ (p:Int)) = true := decide_eq_true (by omega)
  have h5 : decide ((p:Int) < (n:Int)) = true := decide_eq_true (by omega)
  have h7 : ((p:Int) == 0) = false := beq_eq_false_iff_ne.2 (by omega)
  have h71 : (p == 0) = false := beq_eq_false_iff_ne.2 (by omega)
  have h8 : decide (C p < 0) = false := decide_eq_false (by omega)
  have h11 : IntKind.i32.wrap (x:Int) = x := wrap32 (by omega) (by omega)
  clear h hp1
  go_enter Try.func58, Try.ntmps58
  go_wp2
  go_end0
  exact ⟨rfl, H.out.setBase p _, (Chg.refl [b] w).setCell (.inl (by simp)) _⟩
end Go.Proofs.Ytddcjmdcpkmnjaa.Da
namespace Go.Proofs.Ytddcjmdcpkmnjaa.Da
open Go.RowKit Go.Proofs.YtddcjmdcpkmnjaaW.PrintWords Go.Proofs.Ytddcjmdcpkmnjaa.Gn
def B1 (i : Nat) : Nat → Int := fun r => if r = 0 then 1 else if r < i then -((r : Int) - 1) else 0
def C1 (i : Nat) : Nat → Int := fun r => if r = 0 then -1 else if r < i then -((r : Int) + 1) else 0
def B0 (N : Nat) : Nat → Int := upd (B1 N) 1 (-((N : Int) - 1))
def C0 (N : Nat) : Nat → Int := upd (C1 N) (N - 1) (-1)
theorem B1_succ (i : Nat) (h : 1 ≤ i) : upd (B1 i) i (-((i : Int) - 1)) = B1 (i + 1) := by
  funext r
  unfold upd B1
  by_cases e : r = i
  · subst e; rw [if_pos rfl, if_neg (by omega), if_pos (by omega)]
  · rw [if_neg e]
    by_cases e0 : r = 0
    · rw [if_pos e0, if_pos e0]
    · rw [if_neg e0, if_neg e0]
      by_cases e1 : r < i
      · rw [if_pos e1, if_pos (by omega)]
      · rw [if_neg e1, if_neg (by omega)]
theorem C1_succ (i : Nat) (h : 1 ≤ i) : upd (C1 i) i (-((i : Int) + 1)) = C1 (i + 1) := by
  funext r
  unfold upd C1
  by_cases e : r = i
  · subst e; rw [if_pos rfl, if_neg (by omega), if_pos (by omega)]
  · rw [if_neg e]
    by_cases e0 : r = 0
    · rw [if_pos e0, if_pos e0]
    · rw [if_neg e0, if_neg e0]
      by_cases e1 : r < i
      · rw [if_pos e1, if_pos (by omega)]
      · rw [if_neg e1, if_neg (by omega)]
theorem row_made : madeCells #[.int .i32 0, .int .i32 0] 102400 = row 51200 (fun _ => 0) (fun _ => 0) := by
  apply Array.ext_getElem?
  intro i
  rw [row_get]
  unfold madeCells
  by_cases h : i < 102400
  · rw [if_pos (by omega)]
    rw [Array.getElem?_map, Array.getElem?_range, if_pos h]
    have : i % 2 = 0 ∨ i % 2 = 1 := by omega
    rcases this with h2 | h2 <;> simp [h2]
  · rw [if_neg (by omega)]
    rw [Array.getElem?_eq_none (by simp; omega)]
theorem B1_one : upd (fun _ => 0) 0 1 = B1 1 := by
  funext r; unfold upd B1
  by_cases e : r = 0
  · rw [if_pos e, if_pos e]
  · rw [if_neg e, if_neg e, if_neg (by omega)]
theorem C1_one : upd (fun _ => 0) 0 (-1) = C1 1 := by
  funext r; unfold upd C1
  by_cases e : r = 0
  · rw [if_pos e, if_pos e]
  · rw [if_neg e, if_neg e, if_neg (by omega)]
theorem infoS : (Try.prog.info? 71).map (fun i => (i.zero, i.size, i.bytes)) = some (some (.agg #[.int .i32 0, .int .i32 0]), 2, 8) := by kernel_rfl
set_option maxHeartbeats 1000000 in
set_option maxRecDepth 100000 in
theorem init_calls (w : World) (v : Nat) (x : Value) (hv : Var w v 48 x) :
    Calls Try.prog 47 #[.pointer (some ⟨v, 0, none⟩)] w fun e w' => e = .returned (.tuple #[]) ∧ At w' v w.heap.size 51200 (B0 51200) (C0 51200) ∧ w'.heap.size = w.heap.size + 1 ∧ Chg [v] w w' := by
  have HV := Aside0.mk hv
  have HC := Aside0.mk (Chg.refl [v] w)
  have HZ := Aside0.mk row_made
  clear hv
  go_enter Try.func47, Try.ntmps47
  go_upto_region 1 with (at_make; refine wpList_make rfl _ _ _ rfl _ _ 2 8 Try.underlying48 infoS .i64 .i64 51200 51200 rfl rfl (by omega) (by omega) (by omega) (by omega) ?_; intro w2 e2; have HV2 : Aside0 (Var w2 v 48 x) := ⟨by rw [e2]; exact HV.out.alloc _⟩; have h1 := HV2.out.cell; have f1 := HV2.out.frozen 0 none; have E2 := Aside0.mk e2; clear e2)
  have hA : At (w2.setCell ⟨v, 0, none⟩ (.slice (some ⟨w.heap.size, 0, none⟩) 51200 51200)) v w.heap.size 51200 (fun _ => 0) (fun _ => 0) := by
    have hlt := HV.out.lt
    refine ⟨by omega, HV2.out.set _, (Below.heap_setCell _ _ _ _ (by show w.heap.size ≠ v; omega)).trans ?_⟩
    rw [E2.out, heap_alloc_new, ← row_made]
    rfl
  have hC : Chg [v] w (w2.setCell ⟨v, 0, none⟩ (.slice (some ⟨w.heap.size, 0, none⟩) 51200 51200)) := by
    rw [E2.out]; exact ((Chg.refl _ _).alloc _).setCell (.inl (by simp)) _
  have hS : (w2.setCell ⟨v, 0, none⟩ (.slice (some ⟨w.heap.size, 0, none⟩) 51200 51200)).heap.size = w.heap.size + 1 := by
    rw [E2.out, size_setCell, size_alloc]
  have HA := Aside0.mk hA
  have HS := Aside0.mk hS
  have HC := Aside0.mk hC
  clear hA hS hC h1 f1 E2 HV2 HV
  generalize (w2.setCell ⟨v, 0, none⟩ (.slice (some ⟨w.heap.size, 0, none⟩) 51200 51200)) = w3 at *
  have h1 := HA.out.cell
  have h2 : w3.cell? ⟨w.heap.size, 0, none⟩ = some (.int .i32 0) := HA.out.base 0 (by omega)
  have f2 := HA.out.frozen 0 none
  have h3 : w3.cell? ⟨w.heap.size, 1, none⟩ = some (.int .i32 0) := HA.out.check 0 (by omega)
  have f3 := HA.out.frozen 1 none
  have n1 : ¬ v = w.heap.size := HA.out.ne
  have n2 : ¬ w.heap.size = v := fun e => n1 e.symm
  go_upto_region 3 with fail
  have hA : At ((w3.setCell ⟨w.heap.size, 0, none⟩ (.int .i32 1)).setCell ⟨w.heap.size, 1, none⟩ (.int .i32 (-1))) v w.heap.size 51200 (B1 1) (C1 1) := by
    rw [← B1_one, ← C1_one]
    exact (HA.out.setBase 0 _).setCheck 0 _
  have hC : Chg [v] w ((w3.setCell ⟨w.heap.size, 0, none⟩ (.int .i32 1)).setCell ⟨w.heap.size, 1, none⟩ (.int .i32 (-1))) :=
    (HC.out.setCell (.inr (Nat.le_refl _)) _).setCell (.inr (Nat.le_refl _)) _
  have hS : ((w3.setCell ⟨w.heap.size, 0, none⟩ (.int .i32 1)).setCell ⟨w.heap.size, 1, none⟩ (.int .i32 (-1))).heap.size = w.heap.size + 1 := by rw [size_setCell, size_setCell, HS.out]
  have HA2 := Aside0.mk hA
  have HC2 := Aside0.mk hC
  have HS2 := Aside0.mk hS
  clear hA hC hS HA HC HS h1 h2 h3 f2 f3
  generalize (w3.setCell ⟨w.heap.size, 0, none⟩ (.int .i32 1)).setCell ⟨w.heap.size, 1, none⟩ (.int .i32 (-1)) = w4 at *
  obtain ⟨N, hN⟩ : ∃ N : Nat, N = 51200 := ⟨_, rfl⟩
  rw [← hN] at HA2
  have hN1 : N ≤ 60000 := by omega
  have hN2 : 2 ≤ N := by omega
  have HN := Aside0.mk hN
  clear hN
  have h1 := HA2.out.cell
  go_wp2
  go_loopw [3] (fun v3 wr => ∃ i : Nat, v3 = .int .i64 i ∧ Aside0 (1 ≤ i ∧ i ≤ N) ∧ Aside0 (At wr v w.heap.size N (B1 i) (C1 i)) ∧ Aside0 (Chg [v] w wr) ∧ Aside0 (wr.heap.size = w.heap.size + 1)) (fun v3 _ => N - (intOf v3).toNat)
  case atStart => exact ⟨1, rfl, ⟨by omega⟩, HA2, HC2, HS2⟩
  case round =>
    clear h1 HA2 HC2 HS2
    obtain ⟨i, rfl, HI, HA, HC, HS⟩ := hrel
    have hi1 := HI.out.1
    have hi2 := HI.out.2
    have h1 := HA.out.cell
    by_cases hlt : i < N
    · have h2 := HA.out.base i hlt
      have h3 := HA.out.check i hlt
      have f2 := HA.out.frozen (i * 2) none
      have f3 := HA.out.frozen (i * 2 + 1) none
      have q1 : IntKind.i64.wrap (-((i : Int) - 1)) = -((i : Int) - 1) := wrap_neg (by omega) (by omega)
      have q2 : IntKind.i64.wrap (-((i : Int) + 1)) = -((i : Int) + 1) := wrap_neg (by omega) (by omega)
      have q3 : IntKind.i32.wrap (-((i : Int) - 1)) = -((i : Int) - 1) := wrap32n (by omega) (by omega)
      have q4 : IntKind.i32.wrap (-((i : Int) + 1)) = -((i : Int) + 1) := wrap32n (by omega) (by omega)
      have Q := Aside0.mk (And.intro q1 (And.intro q2 (And.intro q3 q4)))
      clear q1 q2 q3 q4
      go_wp2
      go_roundw
      case rel => exact ⟨i + 1, by go_num, ⟨by omega⟩, ⟨by rw [← B1_succ i hi1, ← C1_succ i hi1]; exact (HA.out.setBase i _).setCheck i _⟩, ⟨(HC.out.setCell (.inr (Nat.le_refl _)) _).setCell (.inr (Nat.le_refl _)) _⟩, ⟨by rw [size_setCell, size_setCell]; exact HS.out⟩⟩
      case measure => simp [intOf]; omega
    · obtain rfl : i = N := by omega
      have h2 : wr.cell? ⟨w.heap.size, 2, none⟩ = some (.int .i32 (B1 i 1)) := HA.out.base 1 (by omega)
      have h3 := HA.out.check (i - 1) (by omega)
      have f2 := HA.out.frozen 2 none
      have f3 := HA.out.frozen ((i - 1) * 2 + 1) none
      go_wp2
      go_end0
      have hA := (HA.out.setBase 1 (-((i : Int) - 1))).setCheck (i - 1) (-1)
      have e := HN.out
      refine ⟨rfl, ?_, by rw [size_setCell, size_setCell]; exact HS.out, (HC.out.setCell (.inr (Nat.le_refl _)) _).setCell (.inr (Nat.le_refl _)) _⟩
      rw [← e]
      exact hA
end Go.Proofs.Ytddcjmdcpkmnjaa.Da
namespace Go.Proofs.Ytddcjmdcpkmnjaa.Da
open Go.RowKit Go.Proofs.YtddcjmdcpkmnjaaW.PrintWords Go.Proofs.Ytddcjmdcpkmnjaa.Gn
/-- The world has drawn alone. -/
def Drw (w w1 : World) : Prop := ∃ m, w1 = w.drewN m
theorem Drw.refl (w : World) : Drw w w := ⟨0, rfl⟩
theorem Drw.drewN {w w1 : World} (h : Drw w w1) (k : Nat) : Drw w (w1.drewN k) := by
  obtain ⟨m, rfl⟩ := h; exact ⟨m + k, by rw [World.drewN_drewN]⟩
theorem Drw.at {w w1 : World} {v b n : Nat} {B C : Nat → Int} (h : Drw w w1) (hA : At w v b n B C) : At w1 v b n B C := by
  obtain ⟨m, rfl⟩ := h; exact hA.drewN m
theorem Drw.cell {w w1 : World} (h : Drw w w1) (a : Addr) : w1.cell? a = w.cell? a := by
  obtain ⟨m, rfl⟩ := h; rfl
theorem Drw.chg {w w1 : World} (S : List Nat) (h : Drw w w1) : Chg S w w1 := by
  obtain ⟨m, rfl⟩ := h; exact (Chg.refl S w).drewN m
theorem setBase_any (w : World) (v b n : Nat) (B C : Nat → Int) (p x : Nat) (h : At w v b n B C) (hp : p < n) (hx : x < 100000) (hn : n < 100000) (hu : p = 0 ∨ 0 ≤ C p) :
    Calls Try.prog 58 #[.pointer (some ⟨v, 0, none⟩), .int .i64 p, .int .i64 x] w fun e w' => e = .returned (.tuple #[]) ∧ At w' v b n (if p = 0 then B else upd B p x) C ∧ Chg [b] w w' := by
  by_cases e : p = 0
  · refine (setBase_root w v b n B C p x h e).mono ?_
    rintro e1 w1 ⟨rfl, rfl⟩
    exact ⟨rfl, by rw [if_pos e]; exact h, Chg.refl _ _⟩
  · refine (setBase_calls w v b n B C p x h hp (by omega) hx hn (hu.resolve_left e)).mono ?_
    rintro e1 w1 ⟨rfl, h1, h2⟩
    exact ⟨rfl, by rw [if_neg e]; exact h1, h2⟩
theorem lit (t : Array Value) (n : Nat) (h : t.size = n) : t = ((List.range n).map (fun q => t.getD q undef)).toArray := by
  apply Array.ext
  · simp [h]
  · intro i h1 h2
    simp [Array.getD, h1]
def SeekJ (w : World) (v p cb cap rep : Nat) (chs : List Nat) (f : Nat → Nat) (k : Nat) (a : Act) (w1 : World) : Prop :=
  ∃ (j : Nat) (u : Nat → Value), a = ⟨#[u 0, u 1, u 2, u 3, u 4, u 5, u 6, u 7, u 8, u 9, u 10, u 11, u 12, u 13, u 14, u 15, u 16, u 17, u 18, u 19, u 20, u 21, u 22, u 23, u 24, u 25, u 26, u 27, u 28, u 29, u 30, u 31, u 32, u 33, u 34, u 35, u 36, u 37, u 38, u 39, u 40, u 41, u 42, u 43, u 44, u 45, u 46, u 47, u 48, u 49, u 50, u 51, u 52, u 53, u 54, u 55, u 56, u 57, u 58, u 59, u 60, u 61, u 62, u 63, u 64, u 65, u 66, u 67, u 68, u 69, u 70, u 71, u 72, u 73, u 74, u 75, u 76, u 77, u 78, u 79, u 80, u 81, u 82, u 83, u 84, u 85, u 86, u 87, u 88, u 89, u 90, u 91, u 92, u 93, u 94, u 95, u 96, u 97, u 98, u 99, u 100, u 101, u 102, u 103, u 104, u 105, u 106, u 107, u 108, u 109, u 110, u 111, u 112, u 113], []⟩ ∧ u 0 = .pointer (some ⟨v, 0, none⟩) ∧ u 1 = .int .i64 p ∧ u 2 = .slice (some ⟨cb, 0, none⟩) chs.length cap ∧ u 6 = .int .i64 (f j : Nat) ∧ u 7 = .int .i64 rep ∧ Aside0 (j < k) ∧ Aside0 (Drw w w1)
theorem SeekJ.of {w : World} {v p cb cap rep : Nat} {chs : List Nat} {f : Nat → Nat} {k : Nat} {a : Act} {w1 : World} (j : Nat) (h : a.tmps.size = 114) (hd : a.defers = []) (h0 : a.tmps.getD 0 undef = .pointer (some ⟨v, 0, none⟩)) (h1 : a.tmps.getD 1 undef = .int .i64 p) (h2 : a.tmps.getD 2 undef = .slice (some ⟨cb, 0, none⟩) chs.length cap)
    (h6 : a.tmps.getD 6 undef = .int .i64 (f j : Nat)) (h7 : a.tmps.getD 7 undef = .int .i64 rep) (hj : j < k) (hD : Drw w w1) : SeekJ w v p cb cap rep chs f k a w1 := by
  obtain ⟨t, d⟩ := a
  dsimp only at *
  subst hd
  exact ⟨j, fun q => t.getD q undef, congrArg (fun x => (⟨x, []⟩ : Act)) (lit t 114 h), h0, h1, h2, h6, h7, ⟨hj⟩, ⟨hD⟩⟩
/-- The signs lie in block cb. -/
def Chs (w : World) (cb : Nat) (chs : List Nat) : Prop := ∀ (i : Nat) (h : i < chs.length), w.cell? ⟨cb, i, none⟩ = some (.int .u8 (chs[i] : Nat))
theorem Chs.chg {S : List Nat} {w w1 : World} {cb : Nat} {chs : List Nat} (h : Chs w cb chs) (hc : Chg S w w1) (hs : cb ∉ S) : Chs w1 cb chs := fun i hi => by
  have h1 := h i hi
  have hlt : cb < w.heap.size := World.block_lt_of_cell? w _ h1
  exact (World.cell?_of_block (w := w) (hc.block cb hlt hs)).trans h1

set_option maxHeartbeats 2000000 in
set_option maxRecDepth 100000 in
theorem seek_calls (w : World) (v b n : Nat) (B C : Nat → Int) (p cb cap : Nat) (rep : Nat) (chs : List Nat) (f : Nat → Nat) (k : Nat) (U : List Nat) (h : At w v b n B C) (hcs : Chs w cb chs) (hcb : cb ≠ b) (hcv : cb ≠ v) (hp : p < n) (hn : n ≤ 60000) (hI : Inv n B C) (hU : Used n C U) (hpu : p = 0 ∨ 0 ≤ C p)
    (hS : Seek n C rep chs f k) (hrep : chs[0]? = some rep) (hnd : chs.Nodup) (hc255 : ∀ c ∈ chs, c ≤ 255) (hul : U.length + chs.length + 4 ≤ n) (hcap : chs.length ≤ cap)
    (base : Nat) (hb0 : p = 0 → B 0 = (base : Int) ∧ 1 ≤ base ∧ ∀ c ∈ chs, base + c < n ∧ C (base + c) < 0) (hb1 : p ≠ 0 → f k = base + rep) :
    Calls Try.prog 53 #[.pointer (some ⟨v, 0, none⟩), .int .i64 p, .slice (some ⟨cb, 0, none⟩) chs.length cap] w fun e w' => e = .returned (.tuple #[]) ∧ ∃ B' C', At w' v b n B' C' ∧ Chg [b] w w' ∧ Marked n p base B C chs B' C' := by
  have H := Aside0.mk h
  have HCS := Aside0.mk hcs
  have HI := Aside0.mk hI
  have HU := Aside0.mk hU
  have HPU := Aside0.mk hpu
  have HS := Aside0.mk hS
  have HREP := Aside0.mk hrep
  have HND := Aside0.mk hnd
  have H255 := Aside0.mk hc255
  have HUL := Aside0.mk hul
  have HB0 := Aside0.mk hb0
  have HB1 := Aside0.mk hb1
  have hlen : 0 < chs.length := (List.getElem?_eq_some_iff.1 hrep).1
  have hr255 : rep ≤ 255 := hc255 rep (List.mem_of_getElem? hrep)
  have hch0 : w.cell? ⟨cb, 0, none⟩ = some (.int .u8 (rep : Nat)) := by
    have := hcs 0 hlen
    rwa [(List.getElem?_eq_some_iff.1 hrep).2] at this
  have hl0 : decide ((0 : Int) < (chs.length : Int)) = true := decide_eq_true (by omega)
  have hcl : chs.length ≤ 60000 := by omega
  clear h hcs hI hU hpu hS hrep hnd hc255 hul hb0 hb1
  go_enter Try.func53, Try.ntmps53
  go_wp2
  refine wp_scope_jumps 0 (SeekJ w v p cb cap rep chs f k) (fun a _ => n - (intOf (a.tmps.getD 6 undef)).toNat) rfl ?_ ?_
  · go_wp2
    go_step3
    go_wp2
    go_loopw [6] (fun v6 wr => ∃ j : Nat, v6 = .int .i64 (f j : Nat) ∧ Aside0 (j < k) ∧ Aside0 (Drw w wr)) (fun v6 _ => n - (intOf v6).toNat)
    case atStart => exact ⟨0, by rw [HS.out.zero]; rfl, ⟨HS.out.pos⟩, ⟨Drw.refl _⟩⟩
    case round =>
      clear hch0 hl0
      obtain ⟨j, rfl, HJ, HD⟩ := hrel
      have hA := HD.out.at H.out
      have hj1 := (HS.out.step j HJ.out)
      have hup := HS.out.up j HJ.out
      have hfj : f j < n := by omega
      have h1 := hA.cell
      have h3 := hA.check (f j) hfj
      rw [hj1.1] at h3
      have h0 : wr.cell? ⟨b, 1, none⟩ = some (.int .i32 (-(f 1 : Nat))) := by
        have := hA.check 0 (by omega)
        have e := (HS.out.step 0 (by have := HS.out.pos; omega)).1
        rw [HS.out.zero] at e
        rw [e] at this
        exact this
      have hn1 := hj1.2.1
      have hn2 := hj1.2.2
      have HA := Aside0.mk hA
      have h4 : decide ((0:Int) ≤ (f j : Nat)) = true := decide_eq_true (by omega)
      have h5 : decide ((f j : Nat) < (n:Int)) = true := decide_eq_true (by omega)
      have h6 : (0:Int) < (n : Int) := by omega
      have h7 : 0 < n := by omega
      have HJ1 := Aside0.mk hj1.1
      have hG : ((((f j : Nat) : Int) != 0) = false ∧ ((f j : Nat) != 0) = false) ∨ ((((f j : Nat) : Int) != 0) = true ∧ ((f j : Nat) != 0) = true ∧ ((-(f (j + 1) : Nat) : Int) == (-(f 1 : Nat) : Int)) = false ∧ (((f (j + 1) : Nat) : Int) == ((f 1 : Nat) : Int)) = false ∧ (f (j + 1) == f 1) = false) := by
        by_cases hj0 : j = 0
        · left
          rw [hj0, HS.out.zero]
          exact ⟨rfl, rfl⟩
        · right
          have e : C (f 0) = -((f 1 : Nat) : Int) := (HS.out.step 0 (by have := HS.out.pos; omega)).1
          rw [HS.out.zero] at e
          have e2 := HS.out.notlast j (by omega) HJ.out
          rw [hj1.1, e] at e2
          have e3 : 1 ≤ f j := by
            obtain ⟨i, rfl⟩ : ∃ i, j = i + 1 := ⟨j - 1, by omega⟩
            have hj := HJ.out
            exact (HS.out.step i (by omega)).2.1
          have e4 : f j ≠ 0 := by omega
          have e5 : f (j + 1) ≠ f 1 := by omega
          refine ⟨bne_iff_ne.2 (by omega), bne_iff_ne.2 e4, beq_eq_false_iff_ne.2 e2, beq_eq_false_iff_ne.2 (by omega), beq_eq_false_iff_ne.2 e5⟩
      clear hj1 hA
      rcases hG with ⟨g1, g2⟩ | ⟨g1, g2, g3, g4, g5⟩
      all_goals
        go_wp2_with fail
        go_quiet (fail)
        by_cases hle : f (j + 1) ≤ rep
        · go_wp2_with fail
          go_roundw
          case rel =>
            have hj := HJ.out
            have hlo := HS.out.lo
            refine ⟨j + 1, rfl, ⟨by rcases Nat.lt_or_ge (j + 1) k with g | g; exact g; (obtain rfl : j + 1 = k := by omega); omega⟩, ⟨HD.out.drewN _⟩⟩
          case measure => simp [intOf]; omega
        · obtain ⟨bs, hbs⟩ : ∃ bs, f (j + 1) = bs + rep := ⟨f (j + 1) - rep, by omega⟩
          have hbs1 : 1 ≤ bs := by omega
          have hbsn : bs < n := by omega
          go_wp2_with fail
          have HD5 := Aside0.mk (HD.out.drewN nq)
          clear HD HA h1 h3 h0 g1 g2
          generalize wr.drewN nq = w5 at *
          have hA5 := HD5.out.at H.out
          have h1 := hA5.cell
          have HA5 := Aside0.mk hA5
          clear hA5
          go_loop [55] (fun v55 => ∃ i : Nat, v55 = .int .i64 i ∧ Aside0 (i ≤ chs.length) ∧ Aside0 (∀ i', i' < i → ∀ (h : i' < chs.length), bs + chs[i'] < n → C (bs + chs[i']) < 0)) (fun v55 => chs.length - (intOf v55).toNat)
          case atStart => exact ⟨0, rfl, ⟨Nat.zero_le _⟩, ⟨fun _ h => by omega⟩⟩
          case round =>
            obtain ⟨i, rfl, HIL, HFIT⟩ := hrel
            have hil := HIL.out
            by_cases hlt : i < chs.length
            · obtain ⟨c, hc⟩ : ∃ c, c = chs[i] := ⟨_, rfl⟩
              have hcell := (HD5.out.cell ⟨cb, i, none⟩).trans (HCS.out i hlt)
              rw [← hc] at hcell
              have hmem : c ∈ chs := by rw [hc]; exact List.getElem_mem _
              have hcn : c ≤ 255 := H255.out c hmem
              have HCE := Aside0.mk hc
              have HCM := Aside0.mk hmem
              have k1 : decide ((0:Int) ≤ (i:Int)) = true := decide_eq_true (by omega)
              have k2 : decide ((i:Int) < (chs.length:Int)) = true := decide_eq_true (by omega)
              have k3 : decide (i < chs.length) = true := decide_eq_true (by omega)
              clear hc hmem
              by_cases hq : bs + c < n
              · have h8 := HA5.out.check (bs + c) hq
                have q1 : decide ((bs:Int) + (c:Int) < (n:Int)) = true := decide_eq_true (by omega)
                have q2 : decide (bs + c < n) = true := decide_eq_true (by omega)
                have q3 : decide ((0:Int) ≤ (bs:Int) + (c:Int)) = true := decide_eq_true (by omega)
                have q4 : ((bs:Int) + (c:Int)).toNat = bs + c := by omega
                by_cases hneg : C (bs + c) < 0
                · have q5 : decide (0 ≤ C (bs + c)) = false := decide_eq_false (by omega)
                  go_wp2_with fail
                  go_round
                  case rel => exact ⟨i + 1, by go_num, ⟨by omega⟩, ⟨fun i' h1' h2' h3' => by
                    rcases Nat.lt_or_ge i' i with g | g
                    · exact HFIT.out i' g h2' h3'
                    · obtain rfl : i' = i := by omega
                      rw [← HCE.out]; exact hneg⟩⟩
                  case measure => simp [intOf]; omega
                · have q5 : decide (0 ≤ C (bs + c)) = true := decide_eq_true (by omega)
                  go_wp2_with fail
                  go_step3
                  have hjk : j + 1 < k := by
                    have hj := HJ.out
                    rcases Nat.lt_or_ge (j + 1) k with g | g
                    · exact g
                    · obtain rfl : j + 1 = k := by omega
                      have := (HS.out.fits c HCM.out).2
                      rw [hbs, Nat.add_sub_cancel] at this
                      omega
                  exact ⟨rfl, SeekJ.of (j + 1) rfl rfl rfl rfl rfl (by rw [hbs, Int.natCast_add]; rfl) rfl hjk HD5.out⟩
              · have q1 : decide ((bs:Int) + (c:Int) < (n:Int)) = false := decide_eq_false (by omega)
                have q2 : decide (bs + c < n) = false := decide_eq_false (by omega)
                go_wp2_with fail
                go_round
                case rel => exact ⟨i + 1, by go_num, ⟨by omega⟩, ⟨fun i' h1' h2' h3' => by
                  rcases Nat.lt_or_ge i' i with g | g
                  · exact HFIT.out i' g h2' h3'
                  · obtain rfl : i' = i := by omega
                    rw [← HCE.out] at h3'; exact absurd h3' hq⟩⟩
                case measure => simp [intOf]; omega
            · obtain rfl : i = chs.length := by omega
              have hjk : j + 1 = k := by
                have hj := HJ.out
                rcases Nat.lt_or_ge (j + 1) k with g | g
                · rcases HS.out.bad (j + 1) (by omega) g with e | ⟨c, c1, c2, c3⟩
                  · exact absurd e hle
                  · rw [hbs, Nat.add_sub_cancel] at c2 c3
                    obtain ⟨i', hi', e⟩ := List.getElem_of_mem c1
                    have := HFIT.out i' hi' hi' (by rw [e]; exact c2)
                    rw [e] at this
                    omega
                · omega
              have HFK : Aside0 (f k = bs + rep) := ⟨by rw [← hjk]; exact hbs⟩
              have HQ : Aside0 (∀ c ∈ chs, base + c < n ∧ C (base + c) < 0) := ⟨fun c hc => by
                by_cases e : p = 0
                · exact (HB0.out e).2.2 c hc
                · have e1 := HB1.out e
                  have := HS.out.fits c hc
                  rw [e1, Nat.add_sub_cancel] at this
                  exact this⟩
              have HB1' : Aside0 (1 ≤ base) := ⟨by
                by_cases e : p = 0
                · exact (HB0.out e).2.1
                · have e1 := HB1.out e
                  have e2 := HFK.out
                  omega⟩
              have HBQ : Aside0 ((if p = 0 then B else upd B p bs) = (if p = 0 then B else upd B p base)) := ⟨by
                by_cases e : p = 0
                · rw [if_pos e, if_pos e]
                · rw [if_neg e, if_neg e]
                  have e1 := HB1.out e
                  have e2 := HFK.out
                  have : bs = base := by omega
                  rw [this]⟩
              have HST := Aside0.mk (Marked.start HI.out hp HPU.out (fun e => (HB0.out e).1))
              have HCSB := Aside0.mk (setBase_any w5 v b n B C p bs HA5.out hp (by omega) (by omega) HPU.out)
              have HC5 := Aside0.mk (HD5.out.chg [b])
              clear hbs hle hjk h1 hlt HFIT
              go_wp2_with (go_at_call 58; refine HCSB.out.mono ?_; rintro e w6 ⟨rfl, ha6, hc6⟩; rw [HBQ.out] at ha6; have HA6 := Aside0.mk ha6; have HC6 := Aside0.mk (HC5.out.trans hc6); clear ha6 hc6 HCSB)
              go_loopw [86] (fun v86 wr => ∃ (i : Nat) (Bi Ci : Nat → Int), v86 = .int .i64 i ∧ Aside0 (i ≤ chs.length) ∧ Aside0 (At wr v b n Bi Ci) ∧ Aside0 (Marked n p base B C (chs.take i) Bi Ci) ∧ Aside0 (Chg [b] w wr)) (fun v86 _ => chs.length - (intOf v86).toNat)
              case atStart => exact ⟨0, _, _, rfl, ⟨Nat.zero_le _⟩, HA6, ⟨by rw [List.take_zero]; exact HST.out⟩, HC6⟩
              case round =>
                clear HA6 HC6 HST HC5 HA5 HD5
                obtain ⟨i, Bi, Ci, rfl, HIL, HAi, HMi, HCi⟩ := hrel
                by_cases hlt : i < chs.length
                · have h1 := HAi.out.cell
                  have h2 := HAi.out.base p hp
                  rw [HMi.out.based] at h2
                  obtain ⟨c, hc⟩ : ∃ c, c = chs[i] := ⟨_, rfl⟩
                  have hcell := (HCS.out.chg HCi.out (by simpa using hcb)) i hlt
                  rw [← hc] at hcell
                  have hmem : c ∈ chs := by rw [hc]; exact List.getElem_mem _
                  have hcn : c ≤ 255 := H255.out c hmem
                  obtain ⟨q0, q1⟩ := HQ.out c hmem
                  have hb1 := HB1'.out
                  have HT := Aside0.mk (show chs.take (i + 1) = chs.take i ++ [c] by rw [List.take_succ_eq_append_getElem hlt, ← hc])
                  have hnot : c ∉ chs.take i := by
                    have hnd := HND.out
                    rw [← List.take_append_drop (i + 1) chs, HT.out, List.append_assoc, List.nodup_append] at hnd
                    exact fun g => hnd.2.2 c g c (by simp) rfl
                  have HNOT := Aside0.mk hnot
                  have hf := HMi.out.free (base + c) (by omega) q0 q1 (fun c2 h2 e => hnot (by rw [show c = c2 from by omega]; exact h2))
                  have hlt2 : (((chs.take i).map (base + ·)) ++ U).length + 4 ≤ n := by
                    have := HUL.out
                    simp only [List.length_append, List.length_map, List.length_take]
                    omega
                  obtain ⟨pr, nx, t1, t2, t3, t4, t5, t6, t7, t8, t9⟩ := HMi.out.inv.three (HMi.out.used HU.out) hlt2 (by omega) q0 hf
                  obtain ⟨c0, r1, r2, r3, r4⟩ := HMi.out.inv.root
                  have HCC := Aside0.mk (setCheck_calls wr v b n Bi Ci (base + c) p HAi.out q0 (by omega) (by omega) (by omega) pr nx t1 t2 t3 t4 t5 t6 t7 c0 r1 r3)
                  have HMS := Aside0.mk (HMi.out.step hp HPU.out hb1 hnot q0 q1 t1 t2 t5 t6 t7)
                  have HSUM := Aside0.mk (show ((base : Int) + (c : Int)) = ((base + c : Nat) : Int) from by omega)
                  have k1 : decide ((0:Int) ≤ (i:Int)) = true := decide_eq_true (by omega)
                  have k2 : decide ((i:Int) < (chs.length:Int)) = true := decide_eq_true (by omega)
                  have k3 : decide (i < chs.length) = true := decide_eq_true (by omega)
                  have k4 : decide ((n:Int) ≤ (base:Int) + (c:Int)) = false := decide_eq_false (by omega)
                  have k5 : decide (n ≤ base + c) = false := decide_eq_false (by omega)
                  have k6 : (base:Int) < 60000 := by omega
                  have k7 : (0:Int) ≤ (p : Int) := by omega
                  have k8 : (p:Int) < (n : Int) := by omega
                  have HCi2 := HCi
                  clear hc hmem hnot hf hlt2 t1 t2 t3 t4 t5 t6 t7 t8 t9 r1 r2 r3 r4 q1 HCi
                  go_wp2_with (go_at_call 59; rw [HSUM.out]; refine HCC.out.mono ?_; rintro e w7 ⟨rfl, ha7, hc7⟩; have HA7 := Aside0.mk ha7; have HC7 := Aside0.mk (HCi2.out.trans hc7); clear ha7 hc7 HCC)
                  go_roundw
                  case rel => exact ⟨i + 1, _, _, by go_num, ⟨by omega⟩, HA7, ⟨by rw [HT.out]; exact HMS.out⟩, HC7⟩
                  case measure => simp [intOf]; omega
                · have hi : i = chs.length := by have := HIL.out; omega
                  have ht : chs.take i = chs := by rw [hi, List.take_length]
                  have HM := HMi.out
                  rw [ht] at HM
                  have HMM := Aside0.mk HM
                  clear HM ht hi HMi
                  go_wp2_with fail
                  simp only [Exit.jump]
                  go_end0
                  exact ⟨rfl, _, _, HAi.out, HCi.out, HMM.out⟩
  · rintro a1 w1 ⟨j0, u, rfl, e0, e1, e2, e6, e7, HJ, HD⟩
    rw [e0, e1, e2, e6, e7]
    have HMS0 := Aside0.mk (show intOf (Value.int .i64 (f j0 : Nat)) = (f j0 : Nat) from rfl)
    clear hch0 hl0
    go_wp2
    go_loopw [6] (fun v6 wr => ∃ j : Nat, v6 = .int .i64 (f j : Nat) ∧ Aside0 (j < k) ∧ Aside0 (Drw w wr) ∧ Aside0 (n - f j ≤ n - f j0)) (fun v6 _ => n - (intOf v6).toNat)
    case atStart => exact ⟨j0, rfl, HJ, HD, ⟨Nat.le_refl _⟩⟩
    case round =>
      clear HJ HD e0 e1 e2 e6 e7
      obtain ⟨j, rfl, HJ, HD, HM⟩ := hrel
      have hA := HD.out.at H.out
      have hj1 := (HS.out.step j HJ.out)
      have hup := HS.out.up j HJ.out
      have hfj : f j < n := by omega
      have h1 := hA.cell
      have h3 := hA.check (f j) hfj
      rw [hj1.1] at h3
      have h0 : wr.cell? ⟨b, 1, none⟩ = some (.int .i32 (-(f 1 : Nat))) := by
        have := hA.check 0 (by omega)
        have e := (HS.out.step 0 (by have := HS.out.pos; omega)).1
        rw [HS.out.zero] at e
        rw [e] at this
        exact this
      have hn1 := hj1.2.1
      have hn2 := hj1.2.2
      have HA := Aside0.mk hA
      have h4 : decide ((0:Int) ≤ (f j : Nat)) = true := decide_eq_true (by omega)
      have h5 : decide ((f j : Nat) < (n:Int)) = true := decide_eq_true (by omega)
      have h6 : (0:Int) < (n : Int) := by omega
      have h7 : 0 < n := by omega
      have HJ1 := Aside0.mk hj1.1
      have hG : ((((f j : Nat) : Int) != 0) = false ∧ ((f j : Nat) != 0) = false) ∨ ((((f j : Nat) : Int) != 0) = true ∧ ((f j : Nat) != 0) = true ∧ ((-(f (j + 1) : Nat) : Int) == (-(f 1 : Nat) : Int)) = false ∧ (((f (j + 1) : Nat) : Int) == ((f 1 : Nat) : Int)) = false ∧ (f (j + 1) == f 1) = false) := by
        by_cases hj0 : j = 0
        · left
          rw [hj0, HS.out.zero]
          exact ⟨rfl, rfl⟩
        · right
          have e : C (f 0) = -((f 1 : Nat) : Int) := (HS.out.step 0 (by have := HS.out.pos; omega)).1
          rw [HS.out.zero] at e
          have e2 := HS.out.notlast j (by omega) HJ.out
          rw [hj1.1, e] at e2
          have e3 : 1 ≤ f j := by
            obtain ⟨i, rfl⟩ : ∃ i, j = i + 1 := ⟨j - 1, by omega⟩
            have hj := HJ.out
            exact (HS.out.step i (by omega)).2.1
          have e4 : f j ≠ 0 := by omega
          have e5 : f (j + 1) ≠ f 1 := by omega
          refine ⟨bne_iff_ne.2 (by omega), bne_iff_ne.2 e4, beq_eq_false_iff_ne.2 e2, beq_eq_false_iff_ne.2 (by omega), beq_eq_false_iff_ne.2 e5⟩
      clear hj1 hA
      rcases hG with ⟨g1, g2⟩ | ⟨g1, g2, g3, g4, g5⟩
      all_goals
        go_wp2_with fail
        go_quiet (fail)
        by_cases hle : f (j + 1) ≤ rep
        · go_wp2_with fail
          go_roundw
          case rel =>
            have hj := HJ.out
            have hlo := HS.out.lo
            refine ⟨j + 1, rfl, ⟨by rcases Nat.lt_or_ge (j + 1) k with g | g; exact g; (obtain rfl : j + 1 = k := by omega); omega⟩, ⟨HD.out.drewN _⟩, ⟨by have := HM.out; omega⟩⟩
          case measure => simp [intOf]; omega
        · obtain ⟨bs, hbs⟩ : ∃ bs, f (j + 1) = bs + rep := ⟨f (j + 1) - rep, by omega⟩
          have hbs1 : 1 ≤ bs := by omega
          have hbsn : bs < n := by omega
          go_wp2_with fail
          have HD5 := Aside0.mk (HD.out.drewN nq)
          clear HD HA h1 h3 h0 g1 g2
          generalize wr.drewN nq = w5 at *
          have hA5 := HD5.out.at H.out
          have h1 := hA5.cell
          have HA5 := Aside0.mk hA5
          clear hA5
          go_loop [55] (fun v55 => ∃ i : Nat, v55 = .int .i64 i ∧ Aside0 (i ≤ chs.length) ∧ Aside0 (∀ i', i' < i → ∀ (h : i' < chs.length), bs + chs[i'] < n → C (bs + chs[i']) < 0)) (fun v55 => chs.length - (intOf v55).toNat)
          case atStart => exact ⟨0, rfl, ⟨Nat.zero_le _⟩, ⟨fun _ h => by omega⟩⟩
          case round =>
            obtain ⟨i, rfl, HIL, HFIT⟩ := hrel
            have hil := HIL.out
            by_cases hlt : i < chs.length
            · obtain ⟨c, hc⟩ : ∃ c, c = chs[i] := ⟨_, rfl⟩
              have hcell := (HD5.out.cell ⟨cb, i, none⟩).trans (HCS.out i hlt)
              rw [← hc] at hcell
              have hmem : c ∈ chs := by rw [hc]; exact List.getElem_mem _
              have hcn : c ≤ 255 := H255.out c hmem
              have HCE := Aside0.mk hc
              have HCM := Aside0.mk hmem
              have k1 : decide ((0:Int) ≤ (i:Int)) = true := decide_eq_true (by omega)
              have k2 : decide ((i:Int) < (chs.length:Int)) = true := decide_eq_true (by omega)
              have k3 : decide (i < chs.length) = true := decide_eq_true (by omega)
              clear hc hmem
              by_cases hq : bs + c < n
              · have h8 := HA5.out.check (bs + c) hq
                have q1 : decide ((bs:Int) + (c:Int) < (n:Int)) = true := decide_eq_true (by omega)
                have q2 : decide (bs + c < n) = true := decide_eq_true (by omega)
                have q3 : decide ((0:Int) ≤ (bs:Int) + (c:Int)) = true := decide_eq_true (by omega)
                have q4 : ((bs:Int) + (c:Int)).toNat = bs + c := by omega
                by_cases hneg : C (bs + c) < 0
                · have q5 : decide (0 ≤ C (bs + c)) = false := decide_eq_false (by omega)
                  go_wp2_with fail
                  go_round
                  case rel => exact ⟨i + 1, by go_num, ⟨by omega⟩, ⟨fun i' h1' h2' h3' => by
                    rcases Nat.lt_or_ge i' i with g | g
                    · exact HFIT.out i' g h2' h3'
                    · obtain rfl : i' = i := by omega
                      rw [← HCE.out]; exact hneg⟩⟩
                  case measure => simp [intOf]; omega
                · have q5 : decide (0 ≤ C (bs + c)) = true := decide_eq_true (by omega)
                  go_wp2_with fail
                  go_step3
                  have hjk : j + 1 < k := by
                    have hj := HJ.out
                    rcases Nat.lt_or_ge (j + 1) k with g | g
                    · exact g
                    · obtain rfl : j + 1 = k := by omega
                      have := (HS.out.fits c HCM.out).2
                      rw [hbs, Nat.add_sub_cancel] at this
                      omega
                  refine ⟨rfl, SeekJ.of (j + 1) rfl rfl rfl rfl rfl (by rw [hbs, Int.natCast_add]; rfl) rfl hjk HD5.out, ?_⟩
                  have hm := HM.out
                  simp [intOf]
                  omega
              · have q1 : decide ((bs:Int) + (c:Int) < (n:Int)) = false := decide_eq_false (by omega)
                have q2 : decide (bs + c < n) = false := decide_eq_false (by omega)
                go_wp2_with fail
                go_round
                case rel => exact ⟨i + 1, by go_num, ⟨by omega⟩, ⟨fun i' h1' h2' h3' => by
                  rcases Nat.lt_or_ge i' i with g | g
                  · exact HFIT.out i' g h2' h3'
                  · obtain rfl : i' = i := by omega
                    rw [← HCE.out] at h3'; exact absurd h3' hq⟩⟩
                case measure => simp [intOf]; omega
            · obtain rfl : i = chs.length := by omega
              have hjk : j + 1 = k := by
                have hj := HJ.out
                rcases Nat.lt_or_ge (j + 1) k with g | g
                · rcases HS.out.bad (j + 1) (by omega) g with e | ⟨c, c1, c2, c3⟩
                  · exact absurd e hle
                  · rw [hbs, Nat.add_sub_cancel] at c2 c3
                    obtain ⟨i', hi', e⟩ := List.getElem_of_mem c1
                    have := HFIT.out i' hi' hi' (by rw [e]; exact c2)
                    rw [e] at this
                    omega
                · omega
              have HFK : Aside0 (f k = bs + rep) := ⟨by rw [← hjk]; exact hbs⟩
              have HQ : Aside0 (∀ c ∈ chs, base + c < n ∧ C (base + c) < 0) := ⟨fun c hc => by
                by_cases e : p = 0
                · exact (HB0.out e).2.2 c hc
                · have e1 := HB1.out e
                  have := HS.out.fits c hc
                  rw [e1, Nat.add_sub_cancel] at this
                  exact this⟩
              have HB1' : Aside0 (1 ≤ base) := ⟨by
                by_cases e : p = 0
                · exact (HB0.out e).2.1
                · have e1 := HB1.out e
                  have e2 := HFK.out
                  omega⟩
              have HBQ : Aside0 ((if p = 0 then B else upd B p bs) = (if p = 0 then B else upd B p base)) := ⟨by
                by_cases e : p = 0
                · rw [if_pos e, if_pos e]
                · rw [if_neg e, if_neg e]
                  have e1 := HB1.out e
                  have e2 := HFK.out
                  have : bs = base := by omega
                  rw [this]⟩
              have HST := Aside0.mk (Marked.start HI.out hp HPU.out (fun e => (HB0.out e).1))
              have HCSB := Aside0.mk (setBase_any w5 v b n B C p bs HA5.out hp (by omega) (by omega) HPU.out)
              have HC5 := Aside0.mk (HD5.out.chg [b])
              clear hbs hle hjk h1 hlt HFIT
              go_wp2_with (go_at_call 58; refine HCSB.out.mono ?_; rintro e w6 ⟨rfl, ha6, hc6⟩; rw [HBQ.out] at ha6; have HA6 := Aside0.mk ha6; have HC6 := Aside0.mk (HC5.out.trans hc6); clear ha6 hc6 HCSB)
              go_loopw [86] (fun v86 wr => ∃ (i : Nat) (Bi Ci : Nat → Int), v86 = .int .i64 i ∧ Aside0 (i ≤ chs.length) ∧ Aside0 (At wr v b n Bi Ci) ∧ Aside0 (Marked n p base B C (chs.take i) Bi Ci) ∧ Aside0 (Chg [b] w wr)) (fun v86 _ => chs.length - (intOf v86).toNat)
              case atStart => exact ⟨0, _, _, rfl, ⟨Nat.zero_le _⟩, HA6, ⟨by rw [List.take_zero]; exact HST.out⟩, HC6⟩
              case round =>
                clear HA6 HC6 HST HC5 HA5 HD5
                obtain ⟨i, Bi, Ci, rfl, HIL, HAi, HMi, HCi⟩ := hrel
                by_cases hlt : i < chs.length
                · have h1 := HAi.out.cell
                  have h2 := HAi.out.base p hp
                  rw [HMi.out.based] at h2
                  obtain ⟨c, hc⟩ : ∃ c, c = chs[i] := ⟨_, rfl⟩
                  have hcell := (HCS.out.chg HCi.out (by simpa using hcb)) i hlt
                  rw [← hc] at hcell
                  have hmem : c ∈ chs := by rw [hc]; exact List.getElem_mem _
                  have hcn : c ≤ 255 := H255.out c hmem
                  obtain ⟨q0, q1⟩ := HQ.out c hmem
                  have hb1 := HB1'.out
                  have HT := Aside0.mk (show chs.take (i + 1) = chs.take i ++ [c] by rw [List.take_succ_eq_append_getElem hlt, ← hc])
                  have hnot : c ∉ chs.take i := by
                    have hnd := HND.out
                    rw [← List.take_append_drop (i + 1) chs, HT.out, List.append_assoc, List.nodup_append] at hnd
                    exact fun g => hnd.2.2 c g c (by simp) rfl
                  have HNOT := Aside0.mk hnot
                  have hf := HMi.out.free (base + c) (by omega) q0 q1 (fun c2 h2 e => hnot (by rw [show c = c2 from by omega]; exact h2))
                  have hlt2 : (((chs.take i).map (base + ·)) ++ U).length + 4 ≤ n := by
                    have := HUL.out
                    simp only [List.length_append, List.length_map, List.length_take]
                    omega
                  obtain ⟨pr, nx, t1, t2, t3, t4, t5, t6, t7, t8, t9⟩ := HMi.out.inv.three (HMi.out.used HU.out) hlt2 (by omega) q0 hf
                  obtain ⟨c0, r1, r2, r3, r4⟩ := HMi.out.inv.root
                  have HCC := Aside0.mk (setCheck_calls wr v b n Bi Ci (base + c) p HAi.out q0 (by omega) (by omega) (by omega) pr nx t1 t2 t3 t4 t5 t6 t7 c0 r1 r3)
                  have HMS := Aside0.mk (HMi.out.step hp HPU.out hb1 hnot q0 q1 t1 t2 t5 t6 t7)
                  have HSUM := Aside0.mk (show ((base : Int) + (c : Int)) = ((base + c : Nat) : Int) from by omega)
                  have k1 : decide ((0:Int) ≤ (i:Int)) = true := decide_eq_true (by omega)
                  have k2 : decide ((i:Int) < (chs.length:Int)) = true := decide_eq_true (by omega)
                  have k3 : decide (i < chs.length) = true := decide_eq_true (by omega)
                  have k4 : decide ((n:Int) ≤ (base:Int) + (c:Int)) = false := decide_eq_false (by omega)
                  have k5 : decide (n ≤ base + c) = false := decide_eq_false (by omega)
                  have k6 : (base:Int) < 60000 := by omega
                  have k7 : (0:Int) ≤ (p : Int) := by omega
                  have k8 : (p:Int) < (n : Int) := by omega
                  have HCi2 := HCi
                  clear hc hmem hnot hf hlt2 t1 t2 t3 t4 t5 t6 t7 t8 t9 r1 r2 r3 r4 q1 HCi
                  go_wp2_with (go_at_call 59; rw [HSUM.out]; refine HCC.out.mono ?_; rintro e w7 ⟨rfl, ha7, hc7⟩; have HA7 := Aside0.mk ha7; have HC7 := Aside0.mk (HCi2.out.trans hc7); clear ha7 hc7 HCC)
                  go_roundw
                  case rel => exact ⟨i + 1, _, _, by go_num, ⟨by omega⟩, HA7, ⟨by rw [HT.out]; exact HMS.out⟩, HC7⟩
                  case measure => simp [intOf]; omega
                · have hi : i = chs.length := by have := HIL.out; omega
                  have ht : chs.take i = chs := by rw [hi, List.take_length]
                  have HM := HMi.out
                  rw [ht] at HM
                  have HMM := Aside0.mk HM
                  clear HM ht hi HMi
                  go_wp2_with fail
                  simp only [Exit.jump]
                  go_end0
                  exact ⟨rfl, _, _, HAi.out, HCi.out, HMM.out⟩
end Go.Proofs.Ytddcjmdcpkmnjaa.Da
namespace Go.Proofs.Ytddcjmdcpkmnjaa.Da
open Go.RowKit Go.Proofs.YtddcjmdcpkmnjaaW.PrintWords Go.Proofs.Ytddcjmdcpkmnjaa.Gn
theorem At.setOther {w : World} {v b n : Nat} {B C : Nat → Int} (h : At w v b n B C) {a : Addr} (h1 : v ≠ a.block) (h2 : b ≠ a.block) (y : Value) : At (w.setCell a y) v b n B C :=
  ⟨h.ne, (Below.heap_setCell w a y v h1).trans h.var, (Below.heap_setCell w a y b h2).trans h.row⟩
theorem At.take {w : World} {v b n : Nat} {B C : Nat → Int} (h : At w v b n B C) (m : Nat) (hm : m ≤ n) : ∀ j x, ((Da.row n B C).toList.take (m * 2))[j]? = some x → w.cell? ((⟨b, 0, none⟩ : Addr).add j) = some x := by
  intro j x hx
  rw [List.getElem?_take] at hx
  split at hx
  · rw [Array.getElem?_toList] at hx
    have e : ((⟨b, 0, none⟩ : Addr).add j) = ⟨b, j, none⟩ := by
      unfold Addr.add
      by_cases hz : j = 0
      · rw [if_pos hz, hz]
      · rw [if_neg hz, Nat.zero_add]
    rw [e]
    simp [World.cell?, h.row, hx]
  · cases hx
theorem row_cut (n m : Nat) (B C : Nat → Int) (h : m ≤ n) : (row n B C).toList.take (m * 2) = (row m B C).toList := by
  apply List.ext_getElem?
  intro i
  rw [List.getElem?_take]
  simp only [Array.getElem?_toList, row_get]
  by_cases h1 : i < m * 2
  · rw [if_pos h1, if_pos h1, if_pos (by omega)]
  · rw [if_neg h1, if_neg h1]
theorem row_one (n : Nat) (B C : Nat → Int) : ∀ v ∈ (row n B C).toList, v.oneCell' = true := by
  intro v hv
  obtain ⟨i, hi, e⟩ := List.getElem_of_mem hv
  have h2 := row_get n B C i
  rw [← Array.getElem?_toList, List.getElem?_eq_getElem hi, e] at h2
  split at h2
  · injection h2 with h2; rw [h2]; rfl
  · cases h2
theorem row_zero (m : Nat) : madeCells #[.int .i32 0, .int .i32 0] (m * 2) = row m (fun _ => 0) (fun _ => 0) := by
  apply Array.ext_getElem?
  intro i
  rw [row_get]
  unfold madeCells
  by_cases h : i < m * 2
  · rw [if_pos h, Array.getElem?_map, Array.getElem?_range, if_pos h]
    have : i % 2 = 0 ∨ i % 2 = 1 := by omega
    rcases this with h2 | h2 <;> simp [h2]
  · rw [if_neg h, Array.getElem?_eq_none (by simp; omega)]
/-- What truncate leaves: the cells behind m were free. -/
def Cut (w w' : World) (v b n : Nat) (B C : Nat → Int) : Prop := ∃ m b', m ≤ n ∧ (∀ r, m ≤ r → r < n → C r < 0) ∧ At w' v b' m B C ∧ Chg [v] w w' ∧ (b' = b ∨ w.heap.size ≤ b')
set_option maxHeartbeats 1000000 in
set_option maxRecDepth 100000 in
theorem truncate_calls (w : World) (v b n : Nat) (B C : Nat → Int) (h : At w v b n B C) (hn : n ≤ 60000) :
    Calls Try.prog 50 #[.pointer (some ⟨v, 0, none⟩)] w fun e w' => e = .returned (.tuple #[]) ∧ Cut w w' v b n B C := by
  have H := Aside0.mk h
  have h1 := h.cell
  clear h
  go_enter Try.func50, Try.ntmps50
  go_wp2_with fail
  go_loop [2, 3] (fun v2 v3 => ∃ m i : Nat, v2 = .int .i64 m ∧ v3 = .int .i64 i ∧ Aside0 (m + i = n) ∧ Aside0 (∀ r, m ≤ r → r < n → C r < 0)) (fun _ v3 => n - (intOf v3).toNat)
  case atStart => exact ⟨n, 0, rfl, rfl, ⟨rfl⟩, ⟨fun r a b => by omega⟩⟩
  case round =>
    obtain ⟨m, i, rfl, rfl, HMI, HF⟩ := hrel
    have hmi := HMI.out
    have hm1 : m ≤ n := by omega
    have hi1 : i ≤ n := by omega
    by_cases hlt : i < n
    · have h2 := H.out.check (m - 1) (by omega)
      have k1 : (n:Int) - (i:Int) - 1 = ((m - 1 : Nat) : Int) := by omega
      have k2 : decide ((0:Int) ≤ (n:Int) - (i:Int) - 1) = true := decide_eq_true (by omega)
      have k3 : ((n:Int) - (i:Int) - 1).toNat = m - 1 := by omega
      have k4 : (n:Int) - (i:Int) - 1 < (n:Int) := by omega
      have K1 := Aside0.mk k1
      clear k1 hmi
      by_cases hneg : C (m - 1) < 0
      · go_wp2_with fail
        go_round
        case rel =>
          have hmi := HMI.out
          exact ⟨m - 1, i + 1, by simp; omega, by go_num, ⟨by omega⟩, ⟨fun r a b => by
            by_cases e : r = m - 1
            · rw [e]; exact hneg
            · exact HF.out r (by omega) b⟩⟩
        case measure => simp [intOf]; omega
      · have hm0 := HMI.out
        by_cases hmn : m = n
        · have q1 : ((m:Int) == (n:Int)) = true := beq_iff_eq.2 (by omega)
          have q2 : (m == n) = true := beq_iff_eq.2 hmn
          have HMN := Aside0.mk hmn
          clear hmn hm0
          go_wp2_with fail
          (try simp only [Exit.inBlock, Exit.then]); refine bodyPost_ret (results_none rfl _ _ _) rfl ?_
          exact ⟨rfl, m, b, hm1, HF.out, by rw [HMN.out]; exact H.out, Chg.refl _ _, .inl rfl⟩
        · have q1 : ((m:Int) == (n:Int)) = false := beq_eq_false_iff_ne.2 (by omega)
          have q2 : (m == n) = false := beq_eq_false_iff_ne.2 hmn
          clear hm0
          have hlv := H.out.lt.1
          have hlb := H.out.lt.2
          have hle : m ≤ n := by omega
          have HV := Aside0.mk (show Var (w.alloc (.cells #[.slice none 0 0] 48 (0, 0))) w.heap.size 48 (.slice none 0 0) from heap_alloc_new _ _)
          go_upto_region 9 with (at_make; refine wpList_make rfl _ _ _ rfl _ _ 2 8 Try.underlying48 infoS .i64 .i64 (m : Int) (m : Int) rfl rfl (by omega) (by omega) (by omega) (by omega) ?_; intro w2 e2; have E2 := Aside0.mk e2; have HV2 : Aside0 (Var w2 w.heap.size 48 (.slice none 0 0)) := ⟨by rw [e2]; exact HV.out.alloc _⟩; have g1 := HV2.out.cell; have f1 := HV2.out.frozen 0 none; clear e2)
          have HB : Aside0 (w2.heap[w.heap.size + 1]? = some (.cells (row m (fun _ => 0) (fun _ => 0)) 71 (0, 0))) := ⟨by
            have e := E2.out
            rw [e]
            have e3 := heap_alloc_new (w.alloc (.cells #[.slice none 0 0] 48 (0, 0))) (.cells (madeCells #[.int .i32 0, .int .i32 0] (m * 2)) 71)
            rw [size_alloc, row_zero] at e3
            rw [← row_zero]
            rw [← row_zero] at e3
            exact e3⟩
          have HC2 : Aside0 (Chg [v] w w2) := ⟨by rw [E2.out]; exact ((Chg.refl _ _).alloc _).alloc _⟩
          have HA2 : Aside0 (At w2 v b n B C) := ⟨by rw [E2.out]; exact H.out.chg (((Chg.refl [] _).alloc _).alloc _) (by simp) (by simp)⟩
          clear E2 h1
          refine still_tail 8 (by kernel_rfl) (by kernel_rfl) ?_
          intro w3 e3
          have HV3 : Aside0 (Var w3 w.heap.size 48 (.slice (some ⟨w.heap.size + 1, 0, none⟩) m m)) := ⟨by rw [e3]; exact (HV2.out.set _).drew⟩
          have HB3 : Aside0 (w3.heap[w.heap.size + 1]? = some (.cells (row m (fun _ => 0) (fun _ => 0)) 71 (0, 0))) := ⟨by rw [e3]; exact (Below.heap_setCell w2 ⟨w.heap.size, 0, none⟩ _ (w.heap.size + 1) (by show w.heap.size + 1 ≠ w.heap.size; omega)).trans HB.out⟩
          have HC3 : Aside0 (Chg [v] w w3) := ⟨by rw [e3]; exact (HC2.out.setCell (.inr (Nat.le_refl _)) _).drew⟩
          have HA3 : Aside0 (At w3 v b n B C) := ⟨by rw [e3]; exact (HA2.out.setOther (by show v ≠ w.heap.size; omega) (by show b ≠ w.heap.size; omega) _).drew⟩
          clear e3 HV2 HB HC2 HA2 g1 f1
          have h1 := HA3.out.cell
          have g1 := HV3.out.cell
          have g2 : (m:Int) ≤ (n:Int) := by omega
          have g3 : (0:Int) ≤ (m:Int) := by omega
          simp only [List.take_succ_cons, List.take_zero, List.drop_succ_cons, List.drop_zero]
          repeat still_step
          refine wpStill_nil ?_
          (refine wpList_copy_size rfl _ _ _ _ rfl 71 2 Try.underlying48 (by kernel_rfl) (w.heap.size + 1) m m ⟨b, 0, none⟩ m n rfl rfl _ _ HB3.out ((row n B C).toList.take (m * 2)) ?c1 ?c2 ?c3 ?c4 ?_; (case c1 => rw [List.length_take, Array.length_toList, row_size, show Nat.min m m = m from Nat.min_self m]; omega); (case c2 => exact HA3.out.take m hm1); (case c3 => rw [List.length_take, Array.length_toList, row_size, row_size]; omega); (case c4 => exact fun v hv => row_one n B C v (List.mem_of_mem_take hv)); intro w4 e4; have HV4 : Aside0 (Var w4 w.heap.size 48 (.slice (some ⟨w.heap.size + 1, 0, none⟩) m m)) := ⟨by rw [e4]; exact (setRow_other w3 _ _ _ (by omega)).trans HV3.out⟩; have HR4 : Aside0 (w4.heap[w.heap.size + 1]? = some (.cells (row m B C) 71 (0, 0))) := ⟨by rw [e4, setRow_heap w3 _ _ _ _ _ HB3.out, row_cut n m B C hm1]⟩; have HC4 : Aside0 (Chg [v] w w4) := ⟨by rw [e4]; exact HC3.out.setRow (.inr (by omega)) _⟩; have HX4 : Aside0 (Var w4 v 48 (.slice (some ⟨b, 0, none⟩) n n)) := ⟨by rw [e4]; exact (setRow_other w3 _ _ _ (by omega)).trans HA3.out.var⟩; clear e4 HV3 HB3 HC3 HA3 h1 g1; have g1 := HV4.out.cell; have h1 := HX4.out.cell; have f1 := HX4.out.frozen 0 none)
          go_wp2_with fail
          go_end0
          have hsz := HC4.out.size
          exact ⟨rfl, m, w.heap.size + 1, hm1, HF.out, ⟨by omega, HX4.out.set _, (Below.heap_setCell w4 ⟨v, 0, none⟩ _ _ (by show w.heap.size + 1 ≠ v; omega)).trans HR4.out⟩, HC4.out.setCell (.inl (by simp)) _, by right; omega⟩
    · have hm0 : m = 0 := by omega
      by_cases hmn : m = n
      · have q1 : ((m:Int) == (n:Int)) = true := beq_iff_eq.2 (by omega)
        have q2 : (m == n) = true := beq_iff_eq.2 hmn
        have HMN := Aside0.mk hmn
        clear hmn hm0
        go_wp2_with fail
        (try simp only [Exit.inBlock, Exit.then]); refine bodyPost_ret (results_none rfl _ _ _) rfl ?_
        exact ⟨rfl, m, b, hm1, HF.out, by rw [HMN.out]; exact H.out, Chg.refl _ _, .inl rfl⟩
      · have q1 : ((m:Int) == (n:Int)) = false := beq_eq_false_iff_ne.2 (by omega)
        have q2 : (m == n) = false := beq_eq_false_iff_ne.2 hmn
        clear hm0
        have hlv := H.out.lt.1
        have hlb := H.out.lt.2
        have hle : m ≤ n := by omega
        have HV := Aside0.mk (show Var (w.alloc (.cells #[.slice none 0 0] 48 (0, 0))) w.heap.size 48 (.slice none 0 0) from heap_alloc_new _ _)
        go_upto_region 9 with (at_make; refine wpList_make rfl _ _ _ rfl _ _ 2 8 Try.underlying48 infoS .i64 .i64 (m : Int) (m : Int) rfl rfl (by omega) (by omega) (by omega) (by omega) ?_; intro w2 e2; have E2 := Aside0.mk e2; have HV2 : Aside0 (Var w2 w.heap.size 48 (.slice none 0 0)) := ⟨by rw [e2]; exact HV.out.alloc _⟩; have g1 := HV2.out.cell; have f1 := HV2.out.frozen 0 none; clear e2)
        have HB : Aside0 (w2.heap[w.heap.size + 1]? = some (.cells (row m (fun _ => 0) (fun _ => 0)) 71 (0, 0))) := ⟨by
          have e := E2.out
          rw [e]
          have e3 := heap_alloc_new (w.alloc (.cells #[.slice none 0 0] 48 (0, 0))) (.cells (madeCells #[.int .i32 0, .int .i32 0] (m * 2)) 71)
          rw [size_alloc, row_zero] at e3
          rw [← row_zero]
          rw [← row_zero] at e3
          exact e3⟩
        have HC2 : Aside0 (Chg [v] w w2) := ⟨by rw [E2.out]; exact ((Chg.refl _ _).alloc _).alloc _⟩
        have HA2 : Aside0 (At w2 v b n B C) := ⟨by rw [E2.out]; exact H.out.chg (((Chg.refl [] _).alloc _).alloc _) (by simp) (by simp)⟩
        clear E2 h1
        refine still_tail 8 (by kernel_rfl) (by kernel_rfl) ?_
        intro w3 e3
        have HV3 : Aside0 (Var w3 w.heap.size 48 (.slice (some ⟨w.heap.size + 1, 0, none⟩) m m)) := ⟨by rw [e3]; exact (HV2.out.set _).drew⟩
        have HB3 : Aside0 (w3.heap[w.heap.size + 1]? = some (.cells (row m (fun _ => 0) (fun _ => 0)) 71 (0, 0))) := ⟨by rw [e3]; exact (Below.heap_setCell w2 ⟨w.heap.size, 0, none⟩ _ (w.heap.size + 1) (by show w.heap.size + 1 ≠ w.heap.size; omega)).trans HB.out⟩
        have HC3 : Aside0 (Chg [v] w w3) := ⟨by rw [e3]; exact (HC2.out.setCell (.inr (Nat.le_refl _)) _).drew⟩
        have HA3 : Aside0 (At w3 v b n B C) := ⟨by rw [e3]; exact (HA2.out.setOther (by show v ≠ w.heap.size; omega) (by show b ≠ w.heap.size; omega) _).drew⟩
        clear e3 HV2 HB HC2 HA2 g1 f1
        have h1 := HA3.out.cell
        have g1 := HV3.out.cell
        have g2 : (m:Int) ≤ (n:Int) := by omega
        have g3 : (0:Int) ≤ (m:Int) := by omega
        simp only [List.take_succ_cons, List.take_zero, List.drop_succ_cons, List.drop_zero]
        repeat still_step
        refine wpStill_nil ?_
        (refine wpList_copy_size rfl _ _ _ _ rfl 71 2 Try.underlying48 (by kernel_rfl) (w.heap.size + 1) m m ⟨b, 0, none⟩ m n rfl rfl _ _ HB3.out ((row n B C).toList.take (m * 2)) ?c1 ?c2 ?c3 ?c4 ?_; (case c1 => rw [List.length_take, Array.length_toList, row_size, show Nat.min m m = m from Nat.min_self m]; omega); (case c2 => exact HA3.out.take m hm1); (case c3 => rw [List.length_take, Array.length_toList, row_size, row_size]; omega); (case c4 => exact fun v hv => row_one n B C v (List.mem_of_mem_take hv)); intro w4 e4; have HV4 : Aside0 (Var w4 w.heap.size 48 (.slice (some ⟨w.heap.size + 1, 0, none⟩) m m)) := ⟨by rw [e4]; exact (setRow_other w3 _ _ _ (by omega)).trans HV3.out⟩; have HR4 : Aside0 (w4.heap[w.heap.size + 1]? = some (.cells (row m B C) 71 (0, 0))) := ⟨by rw [e4, setRow_heap w3 _ _ _ _ _ HB3.out, row_cut n m B C hm1]⟩; have HC4 : Aside0 (Chg [v] w w4) := ⟨by rw [e4]; exact HC3.out.setRow (.inr (by omega)) _⟩; have HX4 : Aside0 (Var w4 v 48 (.slice (some ⟨b, 0, none⟩) n n)) := ⟨by rw [e4]; exact (setRow_other w3 _ _ _ (by omega)).trans HA3.out.var⟩; clear e4 HV3 HB3 HC3 HA3 h1 g1; have g1 := HV4.out.cell; have h1 := HX4.out.cell; have f1 := HX4.out.frozen 0 none)
        go_wp2_with fail
        go_end0
        have hsz := HC4.out.size
        exact ⟨rfl, m, w.heap.size + 1, hm1, HF.out, ⟨by omega, HX4.out.set _, (Below.heap_setCell w4 ⟨v, 0, none⟩ _ _ (by show w.heap.size + 1 ≠ v; omega)).trans HR4.out⟩, HC4.out.setCell (.inl (by simp)) _, by right; omega⟩
end Go.Proofs.Ytddcjmdcpkmnjaa.Da
