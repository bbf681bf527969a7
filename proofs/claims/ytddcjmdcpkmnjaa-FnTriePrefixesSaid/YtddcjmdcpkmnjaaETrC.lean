/- impl.TrieCalls: the closure that notes what it is called with. -/
import Derived.Test.YtddcjmdcpkmnjaaMPx
import Derived.Deep.DrawnRows
import Derived.Test.YtddcjmdcpkmnjaaWLast
set_option linter.unusedVariables false
namespace Go.Proofs.Ytddcjmdcpkmnjaa.Gn
/-- 'append(s, y)' at a step of a region that draws. -/
theorem step_append1 {P : Program} {w : World} {ops : Array Oper} {o : Oper} {a : Act} {K : Act → World → Prop} {Q : Exit → Act → World → Prop} {E : Prop} (hgd : o.guard = none) (s x : Operand) (t : TypeId)
    (ho : o.op = .call { callee := .builtin .append, args := #[s, x], argTypes := #[t, t] })
    (e : TypeId) (z : Value) (bytes : Nat) (ht : P.underlying t = some (.slice e)) (hi : (P.info? e).map (fun i => (i.zero, i.size, i.bytes)) = some (some z, 1, bytes)) (hzs : z.cells.size = 1)
    (v : Value) (xs : List Value) (hs : a.eval s = v) (hown : ORow w e v xs)
    (g : Nat) (y : Value) (hx : a.eval x = .slice (some ⟨g, 0, none⟩) 1 1) (hy : w.cell? ⟨g, 0, none⟩ = some y) (h1 : y.oneCell' = true)
    (hl : (xs.length + 1) * bytes ≤ 140737488355328) (hl2 : xs.length < maxLen)
    (h : ∀ v' w', ORow w' e v' (xs ++ [y]) → Chg v.ownBlock.toList w w' → (v'.ownBlock = v.ownBlock ∨ v'.ownBlock = some w.heap.size) → K (a.put o.dst v') w') :
    if Region.wanted o (yielded ops a.tmps) = true then Oper.wp P o a w K Q else E := by
  have hw : Region.wanted o (yielded ops a.tmps) = true := by simp [Region.wanted, hgd]
  rw [if_pos hw]
  obtain ⟨i, hi1, hi2, hi3, hi4⟩ := info_parts hi
  obtain ⟨v', w', hr, h2, h3, _, h5⟩ := run_append_own_at (P := P) w 0 t o.type e i z 1 bytes ht hi1 hi2 hi3 hi4 hzs (by omega) v xs.length xs hown ⟨g, 0, none⟩ 1 1 [y] rfl (fun j u hj => by
    have : j = 0 := by
      rcases j with _ | j
      · rfl
      · simp at hj
    subst this
    have : u = y := by simpa using hj.symm
    rw [this]
    exact hy) (fun u hu => by rw [List.mem_singleton.1 hu]; exact h1) (by unfold maxLen at *; omega) hl (Nat.zero_le _)
  unfold Oper.wp execOp
  simp only [ho, resolve, invoke, builtin, Sem.run_bind, Sem.run_pure, Result.andThen_ok, List.map_toArray, List.map_cons, List.map_nil, hs, hx, hr]
  exact h v' w' (by unfold ORow; simpa using h2) (grownBy_chg h3) h5
theorem Var.new (w : World) (x : Value) (t : TypeId) (n : Nat) (h : w.heap.size = n) : Var (w.alloc (.cells #[x] t)) n t x := by subst h; exact heap_alloc_new _ _
theorem ORow.alloc {w : World} {e : Nat} {v : Value} {xs : List Value} (h : ORow w e v xs) (o : Obj) : ORow (w.alloc o) e v xs := h.chg (S := []) ((Chg.refl [] w).alloc o) (fun _ _ => by simp)
theorem ORow.drew {w : World} {e : Nat} {v : Value} {xs : List Value} (h : ORow w e v xs) : ORow w.drew e v xs := h.chg (S := []) ((Chg.refl [] w).drew) (fun _ _ => by simp)
theorem ORow.setCell {w : World} {e : Nat} {v : Value} {xs : List Value} (h : ORow w e v xs) {a : Addr} (ha : v.ownBlock ≠ some a.block) (y : Value) : ORow (w.setCell a y) e v xs := h.chg (S := [a.block]) ((Chg.refl _ w).setCell (.inl (by simp)) y) (fun g hg hm => ha (by rw [hg, List.mem_singleton.1 hm]))
/-- Two variables that hold rows of their own above w. -/
structure Caps (e t p q : Nat) (w wr : World) (la lb : List Value) : Prop where
  ex : ∃ va vb, Var wr p t va ∧ Var wr q t vb ∧ ORow wr e va la ∧ ORow wr e vb lb ∧ (∀ g, va.ownBlock = some g → w.heap.size ≤ g) ∧ (∀ g, vb.ownBlock = some g → w.heap.size ≤ g) ∧ (∀ g, va.ownBlock = some g → vb.ownBlock ≠ some g)
  chg : Chg [p, q] w wr
  hp : p < w.heap.size
  hq : q < w.heap.size
  ne : p ≠ q
theorem Caps.drew {e t p q : Nat} {w wr : World} {la lb : List Value} (h : Caps e t p q w wr la lb) : Caps e t p q w wr.drew la lb := by
  obtain ⟨⟨va, vb, h1, h2, h3, h4, h5⟩, h6, h7, h8, h9⟩ := h
  exact ⟨⟨va, vb, h1.drew, h2.drew, h3.drew, h4.drew, h5⟩, h6.drew, h7, h8, h9⟩
end Go.Proofs.Ytddcjmdcpkmnjaa.Gn
namespace Go.Proofs.Ytddcjmdcpkmnjaa.Da
open Go.RowKit Go.Proofs.YtddcjmdcpkmnjaaW.PrintWords Go.Proofs.YtddcjmdcpkmnjaaW.PrintLast Go.Proofs.Ytddcjmdcpkmnjaa.Gn
attribute [local go_sem ↓] Go.wp_at_zero Go.wp_at_succ
set_option maxHeartbeats 2000000 in
set_option maxRecDepth 100000 in
theorem note_calls (w0 w : World) (p q : Nat) (la lb : List Value) (x y : Int) (h : Caps 3 23 p q w0 w la lb) (hla : la.length ≤ 1000) (hlb : lb.length ≤ 1000) :
    Calls Try.prog 39 #[.int .i64 x, .int .i64 y, .pointer (some ⟨p, 0, none⟩), .pointer (some ⟨q, 0, none⟩)] w fun e w' => e = .returned (.tuple #[]) ∧ Caps 3 23 p q w0 w' (la ++ [.int .i64 x]) (lb ++ [.int .i64 y]) := by
  obtain ⟨⟨va, vb, hva, hvb, hra, hrb, hna, hnb, hne⟩, hchg, hp, hq, hpq⟩ := h
  obtain ⟨A1, c1, e1, hl1, _⟩ := hra.slice
  obtain ⟨A2, c2, e2, hl2, _⟩ := hrb.slice
  have d1 := hva.cell
  have d2 := hvb.cell
  have f1 := hva.frozen 0 none
  have f2 := hvb.frozen 0 none
  have HA := Aside0.mk hra
  have HB := Aside0.mk hrb
  have VA := Aside0.mk hva
  have VB := Aside0.mk hvb
  have HNA := Aside0.mk hna
  have HNB := Aside0.mk hnb
  have HNE := Aside0.mk hne
  have HC := Aside0.mk hchg
  have HP := Aside0.mk hp
  have HQ := Aside0.mk hq
  have HS1 := Aside0.mk hla
  have HS2 := Aside0.mk hlb
  have hqp : q ≠ p := fun g => hpq g.symm
  clear hra hrb hva hvb hna hnb hne hchg hla hlb e1 e2 hl1 hl2
  go_enter Try.func39, Try.ntmps39
  go_wp2_with fail
  refine wp_region_noPanic ?_
  refine start_ (S := fun w' => w'.cell? ⟨p, 0, none⟩ = some va ∧ w'.cell? ⟨q, 0, none⟩ = some vb) (ds := [8, 9]) #[false, false, false, false, false, false, false, false, false, false] (by kernel_rfl) rfl rfl ⟨d1, d2⟩ (fun hHeld => ?_)
  refine take_ (i := 0) (N := (some 6)) (v := va) #[true, false, false, false, false, false, false, false, false, false] rfl rfl (by kernel_rfl) (fun _ _ _ h => h) (Or.inl ⟨by rfl, ?_⟩) hHeld rfl ?_
  · intro w hSw; (try dsimp only at hSw); go_simp
  try simp only [Act.put, List.setIfInBounds_toArray, List.set_cons_zero, List.set_cons_succ]
  refine take_ (i := 1) (N := (some 7)) (v := .int .i64 x) #[true, true, false, false, false, false, false, false, false, false] rfl rfl (by kernel_rfl) (fun _ _ _ h => h) (Or.inl ⟨by rfl, ?_⟩) hHeld rfl ?_
  · intro w hSw; (try dsimp only at hSw); go_simp
  try simp only [Act.put, List.setIfInBounds_toArray, List.set_cons_zero, List.set_cons_succ]
  refine take_ (i := 4) (N := (some 10)) (v := vb) #[true, true, false, false, true, false, false, false, false, false] rfl rfl (by kernel_rfl) (fun _ _ _ h => h) (Or.inl ⟨by rfl, ?_⟩) hHeld rfl ?_
  · intro w hSw; (try dsimp only at hSw); go_simp
  try simp only [Act.put, List.setIfInBounds_toArray, List.set_cons_zero, List.set_cons_succ]
  refine take_ (i := 5) (N := (some 11)) (v := .int .i64 y) #[true, true, false, false, true, true, false, false, false, false] rfl rfl (by kernel_rfl) (fun _ _ _ h => h) (Or.inl ⟨by rfl, ?_⟩) hHeld rfl ?_
  · intro w hSw; (try dsimp only at hSw); go_simp
  try simp only [Act.put, List.setIfInBounds_toArray, List.set_cons_zero, List.set_cons_succ]
  clear hHeld d1 d2 f1 f2
  have VA0 := Aside0.mk VA.out.drew
  have VB0 := Aside0.mk VB.out.drew
  have HA0 := Aside0.mk HA.out.drew
  have HB0 := Aside0.mk HB.out.drew
  have HC0 := Aside0.mk HC.out.drew
  clear VA VB HA HB HC
  generalize w.drew = wd at *
  have LA : Aside0 (∀ g, va.ownBlock = some g → g < wd.heap.size) := ⟨fun g hg => (HA0.out.block hg).1⟩
  have LB : Aside0 (∀ g, vb.ownBlock = some g → g < wd.heap.size) := ⟨fun g hg => (HB0.out.block hg).1⟩
  refine two_ (i := 2) (j := 6) (Ni := (some 8)) (Nj := (some 12)) #[true, true, true, false, true, true, false, false, false, false] #[true, true, false, false, true, true, true, false, false, false] rfl rfl rfl rfl (by kernel_rfl) (by simp) (by simp) (fun K hK => ?_) (fun K hK => ?_)
  · go_simp
    refine hK.out _ _ ⟨(VA0.out.alloc _).cell, (VB0.out.alloc _).cell⟩ (fun hHeld => ?_)
    try simp only [Act.put, List.setIfInBounds_toArray, List.set_cons_zero, List.set_cons_succ]
    clear hHeld hK K
    have VAwb1 := Aside0.mk (VA0.out.alloc (.cells #[.int .i64 x] 3))
    have VBwb1 := Aside0.mk (VB0.out.alloc (.cells #[.int .i64 x] 3))
    have HAwb1 := Aside0.mk (HA0.out.alloc (.cells #[.int .i64 x] 3))
    have HBwb1 := Aside0.mk (HB0.out.alloc (.cells #[.int .i64 x] 3))
    have HCwb1 := Aside0.mk (HC0.out.alloc (.cells #[.int .i64 x] 3))
    have BXwb1 := Aside0.mk (Var.new wd (.int .i64 x) 3 _ rfl)
    have SZwb1 := Aside0.mk (size_alloc wd (.cells #[.int .i64 x] 3))
    generalize wd.alloc (.cells #[.int .i64 x] 3) = wb1 at *
    refine two_ (i := 3) (j := 6) (Ni := (some 9)) (Nj := (some 12)) #[true, true, true, true, true, true, false, false, false, false] #[true, true, true, false, true, true, true, false, false, false] rfl rfl rfl rfl (by kernel_rfl) (by simp) (by simp) (fun K hK => ?_) (fun K hK => ?_)
    · refine step_append1 (by rfl) _ _ 23 (by rfl) 3 (.int .i64 0) 8 Try.underlying23 info3 rfl va la (by rfl) HAwb1.out _ (.int .i64 x) (by rfl) BXwb1.out.cell (by rfl) (by have := HS1.out; omega) (by have := HS1.out; unfold maxLen; omega) ?_; intro v2 wa2 g1 g2 g3
      have VAn := Aside0.mk (VAwb1.out.chg g2 (fun hm => by have := HNA.out _ (by simpa using hm); have := HP.out; omega))
      have VBn := Aside0.mk (VBwb1.out.chg g2 (fun hm => by have := HNA.out _ (by simpa using hm); have := HQ.out; omega))
      have HBn := Aside0.mk (HBwb1.out.chg g2 (fun g hg hm => HNE.out g (by simpa using hm) hg))
      have HAn := Aside0.mk g1
      have HNAn : Aside0 (∀ g, v2.ownBlock = some g → w0.heap.size ≤ g) := ⟨fun g hg => by rcases g3 with h | h; exact HNA.out g (by rw [← h]; exact hg); rw [h] at hg; injection hg with hg; have := HCwb1.out.size; omega⟩
      have HNEn : Aside0 (∀ g, v2.ownBlock = some g → vb.ownBlock ≠ some g) := ⟨fun g hg hb => by rcases g3 with h | h; exact HNE.out g (by rw [← h]; exact hg) hb; rw [h] at hg; injection hg with hg; have := (HBwb1.out.block hb).1; omega⟩
      have HCn := Aside0.mk (HCwb1.out.above g2 (fun i hi => .inr (HNA.out i (by simpa using hi))))
      have VAwa2 := VAn
      have VBwa2 := VBn
      have HAwa2 := HAn
      have HBwa2 := HBn
      have HCwa2 := HCn
      refine hK.out _ _ ⟨VAn.out.cell, VBn.out.cell⟩ (fun hHeld => ?_)
      try simp only [Act.put, List.setIfInBounds_toArray, List.set_cons_zero, List.set_cons_succ]
      clear hHeld hK K g1 g2 g3 VAn VBn HAn HBn HCn
      refine one_ (i := 6) (N := (some 12)) #[true, true, true, true, true, true, true, false, false, false] rfl rfl (by kernel_rfl) (by simp) (fun K hK => ?_)
      go_simp
      refine hK.out _ _ ⟨(VAwa2.out.alloc _).cell, (VBwa2.out.alloc _).cell⟩ (fun hHeld => ?_)
      try simp only [Act.put, List.setIfInBounds_toArray, List.set_cons_zero, List.set_cons_succ]
      clear hHeld hK K
      have VAwb3 := Aside0.mk (VAwa2.out.alloc (.cells #[.int .i64 y] 3))
      have VBwb3 := Aside0.mk (VBwa2.out.alloc (.cells #[.int .i64 y] 3))
      have HAwb3 := Aside0.mk (HAwa2.out.alloc (.cells #[.int .i64 y] 3))
      have HBwb3 := Aside0.mk (HBwa2.out.alloc (.cells #[.int .i64 y] 3))
      have HCwb3 := Aside0.mk (HCwa2.out.alloc (.cells #[.int .i64 y] 3))
      have BXwb3 := Aside0.mk (BXwb1.out.alloc (.cells #[.int .i64 y] 3))
      have BYwb3 := Aside0.mk (Var.new wa2 (.int .i64 y) 3 _ rfl)
      have SZwb3 := Aside0.mk (size_alloc wa2 (.cells #[.int .i64 y] 3))
      generalize wa2.alloc (.cells #[.int .i64 y] 3) = wb3 at *
      refine one_ (i := 7) (N := (some 13)) #[true, true, true, true, true, true, true, true, false, false] rfl rfl (by kernel_rfl) (by simp) (fun K hK => ?_)
      refine step_append1 (by rfl) _ _ 23 (by rfl) 3 (.int .i64 0) 8 Try.underlying23 info3 rfl vb lb (by rfl) HBwb3.out _ (.int .i64 y) (by rfl) BYwb3.out.cell (by rfl) (by have := HS2.out; omega) (by have := HS2.out; unfold maxLen; omega) ?_; intro v4 wa4 g1 g2 g3
      have VAn := Aside0.mk (VAwb3.out.chg g2 (fun hm => by have := HNB.out _ (by simpa using hm); have := HP.out; omega))
      have VBn := Aside0.mk (VBwb3.out.chg g2 (fun hm => by have := HNB.out _ (by simpa using hm); have := HQ.out; omega))
      have HAn := Aside0.mk (HAwb3.out.chg g2 (fun g hg hm => HNEn.out g hg (by simpa using hm)))
      have HBn := Aside0.mk g1
      have HNBn : Aside0 (∀ g, v4.ownBlock = some g → w0.heap.size ≤ g) := ⟨fun g hg => by rcases g3 with h | h; exact HNB.out g (by rw [← h]; exact hg); rw [h] at hg; injection hg with hg; have := HCwb3.out.size; omega⟩
      have HNE2 : Aside0 (∀ g, v2.ownBlock = some g → v4.ownBlock ≠ some g) := ⟨fun g hg hb => by rcases g3 with h | h; exact HNEn.out g hg (by rw [← h]; exact hb); rw [h] at hb; injection hb with hb; have := (HAwb3.out.block hg).1; omega⟩
      have HCn := Aside0.mk (HCwb3.out.above g2 (fun i hi => .inr (HNB.out i (by simpa using hi))))
      have VAwa4 := VAn
      have VBwa4 := VBn
      have HAwa4 := HAn
      have HBwa4 := HBn
      have HCwa4 := HCn
      refine hK.out _ _ ⟨VAn.out.cell, VBn.out.cell⟩ (fun hHeld => ?_)
      try simp only [Act.put, List.setIfInBounds_toArray, List.set_cons_zero, List.set_cons_succ]
      clear hHeld hK K g1 g2 g3 VAn VBn HAn HBn HCn
      obtain ⟨A3, c3, e3, _⟩ := HAwa4.out.slice
      obtain ⟨A4, c4, e4, _⟩ := HBwa4.out.slice
      generalize (la ++ [Value.int .i64 x]).length = n3 at e3
      generalize (lb ++ [Value.int .i64 y]).length = n4 at e4
      subst e3 e4
      have d1 := VAwa4.out.cell
      have f1 := VAwa4.out.frozen 0 none
      refine last_ (i := 8) (N := none) #[true, true, true, true, true, true, true, true, true, false] rfl rfl (by kernel_rfl) (by simp) (fun K hK => ?_)
      go_simp
      refine hK.out _ _ ?_
      try simp only [Act.put, List.setIfInBounds_toArray, List.set_cons_zero, List.set_cons_succ]
      clear hK K d1 f1
      have VA4 := Aside0.mk (VAwa4.out.set (.slice A3 n3 c3))
      have VB4 := Aside0.mk (VBwa4.out.setOther (a := ⟨p, 0, none⟩) hqp (.slice A3 n3 c3))
      have HA4 := Aside0.mk (HAwa4.out.setCell (a := ⟨p, 0, none⟩) (fun h => by have := HNAn.out p h; have := HP.out; omega) (.slice A3 n3 c3))
      have HB4 := Aside0.mk (HBwa4.out.setCell (a := ⟨p, 0, none⟩) (fun h => by have := HNBn.out p h; have := HP.out; omega) (.slice A3 n3 c3))
      have HC4 := Aside0.mk (HCwa4.out.setCell (a := ⟨p, 0, none⟩) (.inl (by simp)) (.slice A3 n3 c3))
      generalize wa4.setCell ⟨p, 0, none⟩ (.slice A3 n3 c3) = w4 at *
      have d1 := VB4.out.cell
      have f1 := VB4.out.frozen 0 none
      refine last_ (i := 9) (N := none) #[true, true, true, true, true, true, true, true, true, true] rfl rfl (by kernel_rfl) (by simp) (fun K hK => ?_)
      go_simp
      refine hK.out _ _ ?_
      try simp only [Act.put, List.setIfInBounds_toArray, List.set_cons_zero, List.set_cons_succ]
      clear hK K d1 f1
      refine done_ (by kernel_rfl) ?_
      refine NoPanic.normal ?_
      have hres : Caps 3 23 p q w0 (w4.setCell ⟨q, 0, none⟩ (.slice A4 n4 c4)) (la ++ [.int .i64 x]) (lb ++ [.int .i64 y]) := ⟨⟨(.slice A3 n3 c3), (.slice A4 n4 c4), VA4.out.setOther (a := ⟨q, 0, none⟩) hpq _, VB4.out.set _, HA4.out.setCell (a := ⟨q, 0, none⟩) (fun h => by have := HNAn.out q h; have := HQ.out; omega) _, HB4.out.setCell (a := ⟨q, 0, none⟩) (fun h => by have := HNBn.out q h; have := HQ.out; omega) _, HNAn.out, HNBn.out, HNE2.out⟩, HC4.out.setCell (a := ⟨q, 0, none⟩) (.inl (by simp)) _, HP.out, HQ.out, hpq⟩
      generalize w4.setCell ⟨q, 0, none⟩ (.slice A4 n4 c4) = w5 at *
      exact (show bodyPost _ _ _ .normal _ _ from ⟨rfl, _, results_none rfl _ _ _, rfl, hres⟩)
    · go_simp
      refine hK.out _ _ ⟨(VAwb1.out.alloc _).cell, (VBwb1.out.alloc _).cell⟩ (fun hHeld => ?_)
      try simp only [Act.put, List.setIfInBounds_toArray, List.set_cons_zero, List.set_cons_succ]
      clear hHeld hK K
      have VAwb5 := Aside0.mk (VAwb1.out.alloc (.cells #[.int .i64 y] 3))
      have VBwb5 := Aside0.mk (VBwb1.out.alloc (.cells #[.int .i64 y] 3))
      have HAwb5 := Aside0.mk (HAwb1.out.alloc (.cells #[.int .i64 y] 3))
      have HBwb5 := Aside0.mk (HBwb1.out.alloc (.cells #[.int .i64 y] 3))
      have HCwb5 := Aside0.mk (HCwb1.out.alloc (.cells #[.int .i64 y] 3))
      have BXwb5 := Aside0.mk (BXwb1.out.alloc (.cells #[.int .i64 y] 3))
      have BYwb5 := Aside0.mk (Var.new wb1 (.int .i64 y) 3 _ rfl)
      have SZwb5 := Aside0.mk (size_alloc wb1 (.cells #[.int .i64 y] 3))
      generalize wb1.alloc (.cells #[.int .i64 y] 3) = wb5 at *
      refine one_ (i := 3) (N := (some 9)) #[true, true, true, true, true, true, true, false, false, false] rfl rfl (by kernel_rfl) (by simp) (fun K hK => ?_)
      refine step_append1 (by rfl) _ _ 23 (by rfl) 3 (.int .i64 0) 8 Try.underlying23 info3 rfl va la (by rfl) HAwb5.out _ (.int .i64 x) (by rfl) BXwb5.out.cell (by rfl) (by have := HS1.out; omega) (by have := HS1.out; unfold maxLen; omega) ?_; intro v6 wa6 g1 g2 g3
      have VAn := Aside0.mk (VAwb5.out.chg g2 (fun hm => by have := HNA.out _ (by simpa using hm); have := HP.out; omega))
      have VBn := Aside0.mk (VBwb5.out.chg g2 (fun hm => by have := HNA.out _ (by simpa using hm); have := HQ.out; omega))
      have HBn := Aside0.mk (HBwb5.out.chg g2 (fun g hg hm => HNE.out g (by simpa using hm) hg))
      have BYn := Aside0.mk (BYwb5.out.chg g2 (fun hm => by have := LA.out _ (by simpa using hm); have := SZwb1.out; have := SZwb5.out; omega))
      have HAn := Aside0.mk g1
      have HNAn : Aside0 (∀ g, v6.ownBlock = some g → w0.heap.size ≤ g) := ⟨fun g hg => by rcases g3 with h | h; exact HNA.out g (by rw [← h]; exact hg); rw [h] at hg; injection hg with hg; have := HCwb5.out.size; omega⟩
      have HNEn : Aside0 (∀ g, v6.ownBlock = some g → vb.ownBlock ≠ some g) := ⟨fun g hg hb => by rcases g3 with h | h; exact HNE.out g (by rw [← h]; exact hg) hb; rw [h] at hg; injection hg with hg; have := (HBwb5.out.block hb).1; omega⟩
      have HCn := Aside0.mk (HCwb5.out.above g2 (fun i hi => .inr (HNA.out i (by simpa using hi))))
      have VAwa6 := VAn
      have VBwa6 := VBn
      have HAwa6 := HAn
      have HBwa6 := HBn
      have HCwa6 := HCn
      have BYwa6 := BYn
      refine hK.out _ _ ⟨VAn.out.cell, VBn.out.cell⟩ (fun hHeld => ?_)
      try simp only [Act.put, List.setIfInBounds_toArray, List.set_cons_zero, List.set_cons_succ]
      clear hHeld hK K g1 g2 g3 VAn VBn HAn HBn HCn
      refine one_ (i := 7) (N := (some 13)) #[true, true, true, true, true, true, true, true, false, false] rfl rfl (by kernel_rfl) (by simp) (fun K hK => ?_)
      refine step_append1 (by rfl) _ _ 23 (by rfl) 3 (.int .i64 0) 8 Try.underlying23 info3 rfl vb lb (by rfl) HBwa6.out _ (.int .i64 y) (by rfl) BYwa6.out.cell (by rfl) (by have := HS2.out; omega) (by have := HS2.out; unfold maxLen; omega) ?_; intro v7 wa7 g1 g2 g3
      have VAn := Aside0.mk (VAwa6.out.chg g2 (fun hm => by have := HNB.out _ (by simpa using hm); have := HP.out; omega))
      have VBn := Aside0.mk (VBwa6.out.chg g2 (fun hm => by have := HNB.out _ (by simpa using hm); have := HQ.out; omega))
      have HAn := Aside0.mk (HAwa6.out.chg g2 (fun g hg hm => HNEn.out g hg (by simpa using hm)))
      have HBn := Aside0.mk g1
      have HNBn : Aside0 (∀ g, v7.ownBlock = some g → w0.heap.size ≤ g) := ⟨fun g hg => by rcases g3 with h | h; exact HNB.out g (by rw [← h]; exact hg); rw [h] at hg; injection hg with hg; have := HCwa6.out.size; omega⟩
      have HNE2 : Aside0 (∀ g, v6.ownBlock = some g → v7.ownBlock ≠ some g) := ⟨fun g hg hb => by rcases g3 with h | h; exact HNEn.out g hg (by rw [← h]; exact hb); rw [h] at hb; injection hb with hb; have := (HAwa6.out.block hg).1; omega⟩
      have HCn := Aside0.mk (HCwa6.out.above g2 (fun i hi => .inr (HNB.out i (by simpa using hi))))
      have VAwa7 := VAn
      have VBwa7 := VBn
      have HAwa7 := HAn
      have HBwa7 := HBn
      have HCwa7 := HCn
      refine hK.out _ _ ⟨VAn.out.cell, VBn.out.cell⟩ (fun hHeld => ?_)
      try simp only [Act.put, List.setIfInBounds_toArray, List.set_cons_zero, List.set_cons_succ]
      clear hHeld hK K g1 g2 g3 VAn VBn HAn HBn HCn
      obtain ⟨A3, c3, e3, _⟩ := HAwa7.out.slice
      obtain ⟨A4, c4, e4, _⟩ := HBwa7.out.slice
      generalize (la ++ [Value.int .i64 x]).length = n3 at e3
      generalize (lb ++ [Value.int .i64 y]).length = n4 at e4
      subst e3 e4
      have d1 := VAwa7.out.cell
      have f1 := VAwa7.out.frozen 0 none
      refine last_ (i := 8) (N := none) #[true, true, true, true, true, true, true, true, true, false] rfl rfl (by kernel_rfl) (by simp) (fun K hK => ?_)
      go_simp
      refine hK.out _ _ ?_
      try simp only [Act.put, List.setIfInBounds_toArray, List.set_cons_zero, List.set_cons_succ]
      clear hK K d1 f1
      have VA4 := Aside0.mk (VAwa7.out.set (.slice A3 n3 c3))
      have VB4 := Aside0.mk (VBwa7.out.setOther (a := ⟨p, 0, none⟩) hqp (.slice A3 n3 c3))
      have HA4 := Aside0.mk (HAwa7.out.setCell (a := ⟨p, 0, none⟩) (fun h => by have := HNAn.out p h; have := HP.out; omega) (.slice A3 n3 c3))
      have HB4 := Aside0.mk (HBwa7.out.setCell (a := ⟨p, 0, none⟩) (fun h => by have := HNBn.out p h; have := HP.out; omega) (.slice A3 n3 c3))
      have HC4 := Aside0.mk (HCwa7.out.setCell (a := ⟨p, 0, none⟩) (.inl (by simp)) (.slice A3 n3 c3))
      generalize wa7.setCell ⟨p, 0, none⟩ (.slice A3 n3 c3) = w4 at *
      have d1 := VB4.out.cell
      have f1 := VB4.out.frozen 0 none
      refine last_ (i := 9) (N := none) #[true, true, true, true, true, true, true, true, true, true] rfl rfl (by kernel_rfl) (by simp) (fun K hK => ?_)
      go_simp
      refine hK.out _ _ ?_
      try simp only [Act.put, List.setIfInBounds_toArray, List.set_cons_zero, List.set_cons_succ]
      clear hK K d1 f1
      refine done_ (by kernel_rfl) ?_
      refine NoPanic.normal ?_
      have hres : Caps 3 23 p q w0 (w4.setCell ⟨q, 0, none⟩ (.slice A4 n4 c4)) (la ++ [.int .i64 x]) (lb ++ [.int .i64 y]) := ⟨⟨(.slice A3 n3 c3), (.slice A4 n4 c4), VA4.out.setOther (a := ⟨q, 0, none⟩) hpq _, VB4.out.set _, HA4.out.setCell (a := ⟨q, 0, none⟩) (fun h => by have := HNAn.out q h; have := HQ.out; omega) _, HB4.out.setCell (a := ⟨q, 0, none⟩) (fun h => by have := HNBn.out q h; have := HQ.out; omega) _, HNAn.out, HNBn.out, HNE2.out⟩, HC4.out.setCell (a := ⟨q, 0, none⟩) (.inl (by simp)) _, HP.out, HQ.out, hpq⟩
      generalize w4.setCell ⟨q, 0, none⟩ (.slice A4 n4 c4) = w5 at *
      exact (show bodyPost _ _ _ .normal _ _ from ⟨rfl, _, results_none rfl _ _ _, rfl, hres⟩)
  · go_simp
    refine hK.out _ _ ⟨(VA0.out.alloc _).cell, (VB0.out.alloc _).cell⟩ (fun hHeld => ?_)
    try simp only [Act.put, List.setIfInBounds_toArray, List.set_cons_zero, List.set_cons_succ]
    clear hHeld hK K
    have VAwb8 := Aside0.mk (VA0.out.alloc (.cells #[.int .i64 y] 3))
    have VBwb8 := Aside0.mk (VB0.out.alloc (.cells #[.int .i64 y] 3))
    have HAwb8 := Aside0.mk (HA0.out.alloc (.cells #[.int .i64 y] 3))
    have HBwb8 := Aside0.mk (HB0.out.alloc (.cells #[.int .i64 y] 3))
    have HCwb8 := Aside0.mk (HC0.out.alloc (.cells #[.int .i64 y] 3))
    have BYwb8 := Aside0.mk (Var.new wd (.int .i64 y) 3 _ rfl)
    have SZwb8 := Aside0.mk (size_alloc wd (.cells #[.int .i64 y] 3))
    generalize wd.alloc (.cells #[.int .i64 y] 3) = wb8 at *
    refine one_ (i := 2) (N := (some 8)) #[true, true, true, false, true, true, true, false, false, false] rfl rfl (by kernel_rfl) (by simp) (fun K hK => ?_)
    go_simp
    refine hK.out _ _ ⟨(VAwb8.out.alloc _).cell, (VBwb8.out.alloc _).cell⟩ (fun hHeld => ?_)
    try simp only [Act.put, List.setIfInBounds_toArray, List.set_cons_zero, List.set_cons_succ]
    clear hHeld hK K
    have VAwb9 := Aside0.mk (VAwb8.out.alloc (.cells #[.int .i64 x] 3))
    have VBwb9 := Aside0.mk (VBwb8.out.alloc (.cells #[.int .i64 x] 3))
    have HAwb9 := Aside0.mk (HAwb8.out.alloc (.cells #[.int .i64 x] 3))
    have HBwb9 := Aside0.mk (HBwb8.out.alloc (.cells #[.int .i64 x] 3))
    have HCwb9 := Aside0.mk (HCwb8.out.alloc (.cells #[.int .i64 x] 3))
    have BYwb9 := Aside0.mk (BYwb8.out.alloc (.cells #[.int .i64 x] 3))
    have BXwb9 := Aside0.mk (Var.new wb8 (.int .i64 x) 3 _ rfl)
    have SZwb9 := Aside0.mk (size_alloc wb8 (.cells #[.int .i64 x] 3))
    generalize wb8.alloc (.cells #[.int .i64 x] 3) = wb9 at *
    refine one_ (i := 3) (N := (some 9)) #[true, true, true, true, true, true, true, false, false, false] rfl rfl (by kernel_rfl) (by simp) (fun K hK => ?_)
    refine step_append1 (by rfl) _ _ 23 (by rfl) 3 (.int .i64 0) 8 Try.underlying23 info3 rfl va la (by rfl) HAwb9.out _ (.int .i64 x) (by rfl) BXwb9.out.cell (by rfl) (by have := HS1.out; omega) (by have := HS1.out; unfold maxLen; omega) ?_; intro v10 wa10 g1 g2 g3
    have VAn := Aside0.mk (VAwb9.out.chg g2 (fun hm => by have := HNA.out _ (by simpa using hm); have := HP.out; omega))
    have VBn := Aside0.mk (VBwb9.out.chg g2 (fun hm => by have := HNA.out _ (by simpa using hm); have := HQ.out; omega))
    have HBn := Aside0.mk (HBwb9.out.chg g2 (fun g hg hm => HNE.out g (by simpa using hm) hg))
    have BYn := Aside0.mk (BYwb9.out.chg g2 (fun hm => by have := LA.out _ (by simpa using hm); have := SZwb8.out; have := SZwb9.out; omega))
    have HAn := Aside0.mk g1
    have HNAn : Aside0 (∀ g, v10.ownBlock = some g → w0.heap.size ≤ g) := ⟨fun g hg => by rcases g3 with h | h; exact HNA.out g (by rw [← h]; exact hg); rw [h] at hg; injection hg with hg; have := HCwb9.out.size; omega⟩
    have HNEn : Aside0 (∀ g, v10.ownBlock = some g → vb.ownBlock ≠ some g) := ⟨fun g hg hb => by rcases g3 with h | h; exact HNE.out g (by rw [← h]; exact hg) hb; rw [h] at hg; injection hg with hg; have := (HBwb9.out.block hb).1; omega⟩
    have HCn := Aside0.mk (HCwb9.out.above g2 (fun i hi => .inr (HNA.out i (by simpa using hi))))
    have VAwa10 := VAn
    have VBwa10 := VBn
    have HAwa10 := HAn
    have HBwa10 := HBn
    have HCwa10 := HCn
    have BYwa10 := BYn
    refine hK.out _ _ ⟨VAn.out.cell, VBn.out.cell⟩ (fun hHeld => ?_)
    try simp only [Act.put, List.setIfInBounds_toArray, List.set_cons_zero, List.set_cons_succ]
    clear hHeld hK K g1 g2 g3 VAn VBn HAn HBn HCn
    refine one_ (i := 7) (N := (some 13)) #[true, true, true, true, true, true, true, true, false, false] rfl rfl (by kernel_rfl) (by simp) (fun K hK => ?_)
    refine step_append1 (by rfl) _ _ 23 (by rfl) 3 (.int .i64 0) 8 Try.underlying23 info3 rfl vb lb (by rfl) HBwa10.out _ (.int .i64 y) (by rfl) BYwa10.out.cell (by rfl) (by have := HS2.out; omega) (by have := HS2.out; unfold maxLen; omega) ?_; intro v11 wa11 g1 g2 g3
    have VAn := Aside0.mk (VAwa10.out.chg g2 (fun hm => by have := HNB.out _ (by simpa using hm); have := HP.out; omega))
    have VBn := Aside0.mk (VBwa10.out.chg g2 (fun hm => by have := HNB.out _ (by simpa using hm); have := HQ.out; omega))
    have HAn := Aside0.mk (HAwa10.out.chg g2 (fun g hg hm => HNEn.out g hg (by simpa using hm)))
    have HBn := Aside0.mk g1
    have HNBn : Aside0 (∀ g, v11.ownBlock = some g → w0.heap.size ≤ g) := ⟨fun g hg => by rcases g3 with h | h; exact HNB.out g (by rw [← h]; exact hg); rw [h] at hg; injection hg with hg; have := HCwa10.out.size; omega⟩
    have HNE2 : Aside0 (∀ g, v10.ownBlock = some g → v11.ownBlock ≠ some g) := ⟨fun g hg hb => by rcases g3 with h | h; exact HNEn.out g hg (by rw [← h]; exact hb); rw [h] at hb; injection hb with hb; have := (HAwa10.out.block hg).1; omega⟩
    have HCn := Aside0.mk (HCwa10.out.above g2 (fun i hi => .inr (HNB.out i (by simpa using hi))))
    have VAwa11 := VAn
    have VBwa11 := VBn
    have HAwa11 := HAn
    have HBwa11 := HBn
    have HCwa11 := HCn
    refine hK.out _ _ ⟨VAn.out.cell, VBn.out.cell⟩ (fun hHeld => ?_)
    try simp only [Act.put, List.setIfInBounds_toArray, List.set_cons_zero, List.set_cons_succ]
    clear hHeld hK K g1 g2 g3 VAn VBn HAn HBn HCn
    obtain ⟨A3, c3, e3, _⟩ := HAwa11.out.slice
    obtain ⟨A4, c4, e4, _⟩ := HBwa11.out.slice
    generalize (la ++ [Value.int .i64 x]).length = n3 at e3
    generalize (lb ++ [Value.int .i64 y]).length = n4 at e4
    subst e3 e4
    have d1 := VAwa11.out.cell
    have f1 := VAwa11.out.frozen 0 none
    refine last_ (i := 8) (N := none) #[true, true, true, true, true, true, true, true, true, false] rfl rfl (by kernel_rfl) (by simp) (fun K hK => ?_)
    go_simp
    refine hK.out _ _ ?_
    try simp only [Act.put, List.setIfInBounds_toArray, List.set_cons_zero, List.set_cons_succ]
    clear hK K d1 f1
    have VA4 := Aside0.mk (VAwa11.out.set (.slice A3 n3 c3))
    have VB4 := Aside0.mk (VBwa11.out.setOther (a := ⟨p, 0, none⟩) hqp (.slice A3 n3 c3))
    have HA4 := Aside0.mk (HAwa11.out.setCell (a := ⟨p, 0, none⟩) (fun h => by have := HNAn.out p h; have := HP.out; omega) (.slice A3 n3 c3))
    have HB4 := Aside0.mk (HBwa11.out.setCell (a := ⟨p, 0, none⟩) (fun h => by have := HNBn.out p h; have := HP.out; omega) (.slice A3 n3 c3))
    have HC4 := Aside0.mk (HCwa11.out.setCell (a := ⟨p, 0, none⟩) (.inl (by simp)) (.slice A3 n3 c3))
    generalize wa11.setCell ⟨p, 0, none⟩ (.slice A3 n3 c3) = w4 at *
    have d1 := VB4.out.cell
    have f1 := VB4.out.frozen 0 none
    refine last_ (i := 9) (N := none) #[true, true, true, true, true, true, true, true, true, true] rfl rfl (by kernel_rfl) (by simp) (fun K hK => ?_)
    go_simp
    refine hK.out _ _ ?_
    try simp only [Act.put, List.setIfInBounds_toArray, List.set_cons_zero, List.set_cons_succ]
    clear hK K d1 f1
    refine done_ (by kernel_rfl) ?_
    refine NoPanic.normal ?_
    have hres : Caps 3 23 p q w0 (w4.setCell ⟨q, 0, none⟩ (.slice A4 n4 c4)) (la ++ [.int .i64 x]) (lb ++ [.int .i64 y]) := ⟨⟨(.slice A3 n3 c3), (.slice A4 n4 c4), VA4.out.setOther (a := ⟨q, 0, none⟩) hpq _, VB4.out.set _, HA4.out.setCell (a := ⟨q, 0, none⟩) (fun h => by have := HNAn.out q h; have := HQ.out; omega) _, HB4.out.setCell (a := ⟨q, 0, none⟩) (fun h => by have := HNBn.out q h; have := HQ.out; omega) _, HNAn.out, HNBn.out, HNE2.out⟩, HC4.out.setCell (a := ⟨q, 0, none⟩) (.inl (by simp)) _, HP.out, HQ.out, hpq⟩
    generalize w4.setCell ⟨q, 0, none⟩ (.slice A4 n4 c4) = w5 at *
    exact (show bodyPost _ _ _ .normal _ _ from ⟨rfl, _, results_none rfl _ _ _, rfl, hres⟩)
set_option maxHeartbeats 2000000 in
set_option maxRecDepth 100000 in
theorem cbs_calls (w : World) (vp vq : Nat) (b m : Nat) (B C : Nat → Int) (kw : List ByteArray) (ids : List Int) (s : ByteArray) (hbp : b ≠ vp ∧ b ≠ vq) (hcap : Caps 3 23 vp vq w w [] []) (h : DaRow w b m B C) (hm : m ≤ 60000) (hT : TrieOk kw ids m B C) (hs : s.size ≤ 1000) (hnz : ∀ j, j < s.size → (s.get! j).toNat ≠ 0) :
    Calls Try.prog 38 #[.slice (some ⟨b, 0, none⟩) m m, .string s, .func (.func 39) #[] #[.pointer (some ⟨vp, 0, none⟩), .pointer (some ⟨vq, 0, none⟩)]] w fun e w' => e = .returned (.tuple #[]) ∧ Caps 3 23 vp vq w w' (fsts (pfx kw ids s s.size)) (snds (pfx kw ids s s.size)) := by
  have HR := Aside0.mk h
  have HT := Aside0.mk hT
  have HCAP := Aside0.mk hcap
  have HBP := Aside0.mk hbp
  have HNZ := Aside0.mk hnz
  clear h hT hnz hcap hbp
  go_enter Try.func38, Try.ntmps38
  go_wp2_with fail
  go_loopw [7, 15] (fun v7 v15 wr => ∃ j p : Nat, v15 = .int .i64 j ∧ v7 = .int .i64 p ∧ Aside0 (j ≤ s.size) ∧ Aside0 (On kw ids m B C s j p) ∧ Aside0 (Caps 3 23 vp vq w wr (fsts (pfx kw ids s j)) (snds (pfx kw ids s j)))) (fun _ v15 _ => s.size - (intOf v15).toNat)
  case atStart => exact ⟨0, 0, rfl, rfl, ⟨Nat.zero_le _⟩, ⟨On.start HT.out s⟩, HCAP⟩
  case round =>
    obtain ⟨j, p, rfl, rfl, HJ, HO, H2⟩ := hrel
    have HA := Aside0.mk (show DaRow wr b m B C from (H2.out.chg.block b HR.out.lt (by simp only [List.mem_cons, List.not_mem_nil, or_false]; rintro (g | g) <;> first | exact HBP.out.1 g | exact HBP.out.2 g)).trans HR.out)
    have hpl := pfx_len kw ids s j
    have hb4 : (fsts (pfx kw ids s j)).length ≤ j := by unfold fsts; rw [List.length_map]; exact hpl
    have hb5 : (snds (pfx kw ids s j)).length ≤ j := by unfold snds; rw [List.length_map]; exact hpl
    have HB4 := Aside0.mk hb4
    have HB5 := Aside0.mk hb5
    clear hpl hb4 hb5
    by_cases hlt : j < s.size
    · have hp := HO.out.lt
      obtain ⟨base, c, e1, e2, e3, hcs, hc0, hc255, hR⟩ := HO.out.round HT.out hlt (HNZ.out j hlt)
      have d2 := HA.out.base p hp
      rw [e1] at d2
      have k1 : ((c:Int) == 0) = false := beq_eq_false_iff_ne.2 (by omega)
      have k2 : (c == 0) = false := beq_eq_false_iff_ne.2 (by omega)
      have r1 : decide ((0:Int) ≤ (p:Int)) = true := decide_eq_true (by omega)
      have r2 : decide ((p:Int) < (m:Int)) = true := decide_eq_true (by omega)
      have r3 : (p:Int) < (m:Int) := by omega
      have r4 : (0:Int) ≤ (p:Int) := by omega
      have r5 : (j:Int) < (s.size:Int) := by omega
      have r6 : (0:Int) ≤ (j:Int) := by omega
      clear e1
      cases hR with
      | far h e =>
        go_wp2_with fail
        refine still_tail 11 (by kernel_rfl) (by kernel_rfl) ?_
        intro w2 e2
        have H22 : Aside0 (Caps 3 23 vp vq w w2 (fsts (pfx kw ids s s.size)) (snds (pfx kw ids s s.size))) := ⟨by rw [e2, e]; exact H2.out.drew⟩
        rw [show wr.cell? = w2.cell? by rw [e2]; rfl] at d2
        clear e2 e
        simp only [List.take_succ_cons, List.take_zero, List.drop_succ_cons, List.drop_zero]
        repeat still_step
        refine wpStill_nil ?_
        go_wp2_with fail
        exact (show bodyPost _ _ _ .normal _ _ from ⟨rfl, _, results_none rfl _ _ _, rfl, H22.out⟩)
      | other h cv h1 h2 h3 e =>
        have d3 := HA.out.check (base + c) h
        rw [h1] at d3
        have n1 : (cv != (p:Int)) = true := bne_iff_ne.2 h2
        have n2 : (cv == (p:Int)) = false := beq_eq_false_iff_ne.2 h2
        have hw : wrap64 cv = cv := by unfold wrap64; omega
        have HE := Aside0.mk e
        clear h1 h2 h3 e
        go_wp2_with fail
        refine still_tail 11 (by kernel_rfl) (by kernel_rfl) ?_
        intro w2 e2
        have H22 : Aside0 (Caps 3 23 vp vq w w2 (fsts (pfx kw ids s j)) (snds (pfx kw ids s j))) := ⟨by rw [e2]; exact H2.out.drew⟩
        rw [show wr.cell? = w2.cell? by rw [e2]; rfl] at d2 d3
        clear e2
        simp only [List.take_succ_cons, List.take_zero, List.drop_succ_cons, List.drop_zero]
        repeat still_step
        refine wpStill_nil ?_
        go_wp2_with fail
        exact (show bodyPost _ _ _ .normal _ _ from ⟨rfl, _, results_none rfl _ _ _, rfl, by rw [HE.out]; exact H22.out⟩)
      | hit h h1 on b2 h2 h3 h4 y h5 h6 e =>
        have d3 := HA.out.check (base + c) h
        rw [h1] at d3
        have d4 := HA.out.base (base + c) h
        rw [h2] at d4
        have HON := Aside0.mk on
        have HE := Aside0.mk e
        have d5 := HA.out.check b2 h3
        rw [h4, Int.natCast_add] at d5
        have d6 := HA.out.base b2 h3
        rw [h5] at d6
        obtain ⟨y0, y1⟩ := h6
        have k3 : decide (-y ≤ 0) = true := decide_eq_true (by omega)
        have k4 : -y ≤ 0 := by omega
        clear h1 h2 h4 h5 on e
        go_wp2_with fail
        refine still_tail 11 (by kernel_rfl) (by kernel_rfl) ?_
        intro w2 e2
        have H22 : Aside0 (Caps 3 23 vp vq w w2 (fsts (pfx kw ids s j)) (snds (pfx kw ids s j))) := ⟨by rw [e2]; exact H2.out.drew⟩
        rw [show wr.cell? = w2.cell? by rw [e2]; rfl] at d2 d3 d4 d5 d6
        clear e2
        simp only [List.take_succ_cons, List.take_zero, List.drop_succ_cons, List.drop_zero]
        repeat still_step
        refine wpStill_nil ?_
        go_wp2_with (go_at_call 39; refine (note_calls w w2 vp vq _ _ y ((j:Int) + 1) H22.out (by have := HB4.out; omega) (by have := HB5.out; omega)).mono ?_; rintro e3 w3 ⟨rfl, hcap3⟩; have H24 := Aside0.mk hcap3; clear hcap3 H22)
        go_roundw
        case rel => exact ⟨j + 1, base + c, by go_num, by go_num, ⟨by omega⟩, HON, ⟨by rw [HE.out, fsts_app, snds_app]; exact H24.out⟩⟩
        case measure => simp [intOf]; omega
      | end1 h h1 on b2 h2 h3 h4 e =>
        have d3 := HA.out.check (base + c) h
        rw [h1] at d3
        have d4 := HA.out.base (base + c) h
        rw [h2] at d4
        have HON := Aside0.mk on
        have HE := Aside0.mk e
        clear h1 h2 on e
        go_wp2_with fail
        refine still_tail 11 (by kernel_rfl) (by kernel_rfl) ?_
        intro w2 e2
        have H22 : Aside0 (Caps 3 23 vp vq w w2 (fsts (pfx kw ids s j)) (snds (pfx kw ids s j))) := ⟨by rw [e2]; exact H2.out.drew⟩
        rw [show wr.cell? = w2.cell? by rw [e2]; rfl] at d2 d3 d4
        clear e2
        simp only [List.take_succ_cons, List.take_zero, List.drop_succ_cons, List.drop_zero]
        repeat still_step
        refine wpStill_nil ?_
        go_wp2_with fail
        go_roundw
        case rel => exact ⟨j + 1, base + c, by go_num, by go_num, ⟨by omega⟩, HON, ⟨by rw [HE.out]; exact H22.out⟩⟩
        case measure => simp [intOf]; omega
      | end2 h h1 on b2 h2 h3 cv h4 h5 h6 e =>
        have d3 := HA.out.check (base + c) h
        rw [h1] at d3
        have d4 := HA.out.base (base + c) h
        rw [h2] at d4
        have HON := Aside0.mk on
        have HE := Aside0.mk e
        have d5 := HA.out.check b2 h3
        rw [h4] at d5
        rw [Int.natCast_add] at h5
        have n1 : (cv == (base:Int) + (c:Int)) = false := beq_eq_false_iff_ne.2 h5
        have hw : wrap64 cv = cv := by unfold wrap64; omega
        clear h1 h2 h4 h5 h6 on e
        go_wp2_with fail
        refine still_tail 11 (by kernel_rfl) (by kernel_rfl) ?_
        intro w2 e2
        have H22 : Aside0 (Caps 3 23 vp vq w w2 (fsts (pfx kw ids s j)) (snds (pfx kw ids s j))) := ⟨by rw [e2]; exact H2.out.drew⟩
        rw [show wr.cell? = w2.cell? by rw [e2]; rfl] at d2 d3 d4 d5
        clear e2
        simp only [List.take_succ_cons, List.take_zero, List.drop_succ_cons, List.drop_zero]
        repeat still_step
        refine wpStill_nil ?_
        go_wp2_with fail
        go_roundw
        case rel => exact ⟨j + 1, base + c, by go_num, by go_num, ⟨by omega⟩, HON, ⟨by rw [HE.out]; exact H22.out⟩⟩
        case measure => simp [intOf]; omega
    · have hj : j = s.size := by have := HJ.out; omega
      have H22 := H2.out
      rw [hj] at H22
      have H23 := Aside0.mk H22
      have k1 : decide (j < s.size) = false := decide_eq_false hlt
      have k2 : decide ((j:Int) < (s.size:Int)) = false := decide_eq_false (by omega)
      clear hj H22
      go_wp2_with fail
      exact (show bodyPost _ _ _ .normal _ _ from ⟨rfl, _, results_none rfl _ _ _, rfl, H23.out⟩)
theorem trieCalls_idle (p q r : Value) (w : World) :
    CallsD Try.prog 37 #[p, q, r] .returning w fun e u' w' => e = .returned (.tuple #[]) ∧ u' = .returning ∧ w' = w := by
  refine callsD_of_wpS Try.func37 rfl fun c₀ cs hu => ?_
  apply wpS_seq
  apply wpS_region
  simp [wpOpsS, go_sem, recoverD, hu, Try.ntmps37, Exit.thenS]
  refine wpS_cond (t := false) (by simp [Act.eval, Array.replicate]) ?_
  simp only [Bool.false_eq_true, if_false]
  refine wpS_of_wp (wp_skip ?_)
  cases c₀
  simp_all [bodyPostS, results, Try.results37]
def TcPost (kw : List ByteArray) (ids : List Int) (s : ByteArray) (w : World) (e : Ending) (w' : World) : Prop :=
  ∃ va vb, e = .returned (.tuple #[va, vb, .bool true]) ∧ Two 3 w w' va vb (fsts (pfx kw ids s s.size)) (snds (pfx kw ids s s.size))
set_option maxHeartbeats 2000000 in
set_option maxRecDepth 100000 in
theorem trieCalls_calls (w : World) (A0 A1 : Option Addr) (c0 c1 : Nat) (kw : List ByteArray) (ids : List Int) (s : ByteArray) (hk : Kd.C Kd.string w A0 kw.length kw) (hi : Kd.C (Kd.int .i64) w A1 ids.length ids) (hg : goodB kw (idsOr kw ids)) (hs : textB s) :
    Calls Try.prog 23 #[.slice A0 kw.length c0, .slice A1 ids.length c1, .string s] w (TcPost kw (idsOr kw ids) s w) := by
  have hmf : ∀ (fn : Fn) (first cap : Array Value) (w : World), (Instr.makeFunc fn first cap).run Try.prog w = .ok (.func fn first cap) w := fun _ _ _ _ => rfl
  obtain ⟨v1, v2, v3, hc, hsz⟩ := three_vars w (.slice none 0 0) (.slice none 0 0) (.bool false) 23 23 4
  have hb := built_calls _ A0 A1 c0 c1 kw ids (Kd.C_below hk (hc.toBelow (Nat.le_refl _) (by simp))) (Kd.C_below hi (hc.toBelow (Nat.le_refl _) (by simp))) hg.good
  have HB := Aside0.mk hb
  have V1 := Aside0.mk v1
  have V2 := Aside0.mk v2
  have V3 := Aside0.mk v3
  have HC := Aside0.mk hc
  have HSZ := Aside0.mk hsz
  have HS := Aside0.mk hs
  clear hb v1 v2 v3 hc hsz hk hi hg hs
  go_enter_defers Try.func23, Try.ntmps23
  go_wp2_with fail
  generalize ((w.alloc (.cells #[.slice none 0 0] 23)).alloc (.cells #[.slice none 0 0] 23)).alloc (.cells #[.bool false] 4) = w0 at *
  refine HB.out.mono ?_
  rintro e w2 ⟨v, rfl, b, m, B, C, rfl, hrow, hbw, hm, hT, hc2⟩
  have hz2 : w.heap.size + 3 ≤ w2.heap.size := by have := hc2.size; have := HSZ.out; omega
  have V1' := Aside0.mk (V1.out.chg hc2 (by simp))
  have V2' := Aside0.mk (V2.out.chg hc2 (by simp))
  have V3' := Aside0.mk (V3.out.chg hc2 (by simp))
  have hbz : w.heap.size + 3 ≤ b := by have := HSZ.out; omega
  have hcap0 : Caps 3 23 w.heap.size (w.heap.size + 1) w2 w2 [] [] := ⟨⟨_, _, V1'.out, V2'.out, ORow.nil _ _, ORow.nil _ _, fun g h => (by cases h), fun g h => (by cases h), fun g h => (by cases h)⟩, Chg.refl _ _, by omega, by omega, by omega⟩
  have hf := cbs_calls w2 w.heap.size (w.heap.size + 1) b m B C kw (idsOr kw ids) s ⟨by omega, by omega⟩ hcap0 hrow hm hT HS.out.1 HS.out.2
  have HF := Aside0.mk hf
  have HC2 : Aside0 (Chg [] w w2) := ⟨HC.out.above hc2 (by simp)⟩
  clear hcap0 hbz hrow hbw hm hT hc2 hf HB V1 V2 V3 HC
  go_wp2_with fail
  refine HF.out.mono ?_
  rintro e w3 ⟨rfl, hcap⟩
  obtain ⟨⟨va, vb, hva, hvb, hra, hrb, hna, hnb, hne⟩, hchg, _, _, _⟩ := hcap
  obtain ⟨A4, c4, e4, _⟩ := hra.slice
  obtain ⟨A5, c5, e5, _⟩ := hrb.slice
  obtain ⟨n4, HN4⟩ : ∃ n4, n4 = (fsts (pfx kw (idsOr kw ids) s s.size)).length := ⟨_, rfl⟩
  obtain ⟨n5, HN5⟩ : ∃ n5, n5 = (snds (pfx kw (idsOr kw ids) s s.size)).length := ⟨_, rfl⟩
  rw [← HN4] at e4
  rw [← HN5] at e5
  subst e4 e5
  clear HN4 HN5
  have HZ2 : Aside0 (w.heap.size + 3 ≤ w2.heap.size) := ⟨hz2⟩
  have HC4 : Aside0 (Chg [] w w3) := ⟨HC2.out.above hchg (by simp only [List.mem_cons, List.not_mem_nil, or_false]; rintro g (rfl | rfl) <;> omega)⟩
  have V1x := Aside0.mk hva
  have V2x := Aside0.mk hvb
  have V3x := Aside0.mk (V3'.out.chg hchg (by simp only [List.mem_cons, List.not_mem_nil, or_false]; omega))
  have HRA := Aside0.mk hra
  have HRB := Aside0.mk hrb
  have HNA := Aside0.mk hna
  have HNB := Aside0.mk hnb
  have HNE := Aside0.mk hne
  clear hva hvb hra hrb hna hnb hne hchg HF V1' V2' V3' HC2
  have d1 := V1x.out.cell
  have d2 := V2x.out.cell
  have d3 := V3x.out.cell
  have f1 := V1x.out.frozen 0 none
  have f2 := V2x.out.frozen 0 none
  have f3 := V3x.out.frozen 0 none
  have hn2 : w.heap.size + 1 + 1 ≠ w.heap.size := by omega
  have hn3 : w.heap.size + 1 + 1 ≠ w.heap.size + 1 := by omega
  have hn : w.heap.size ≠ w.heap.size + 1 := by omega
  have hn' : w.heap.size + 1 ≠ w.heap.size := by omega
  have hn4 : w.heap.size ≠ w.heap.size + 1 + 1 := by omega
  have hn5 : w.heap.size + 1 ≠ w.heap.size + 1 + 1 := by omega
  go_wp2_with fail
  go_region_held3 (fun w' => w'.cell? ⟨w.heap.size, 0, none⟩ = some (.slice A4 n4 c4) ∧ w'.cell? ⟨w.heap.size + 1, 0, none⟩ = some (.slice A5 n5 c5)) (first | (refine ⟨?_, ?_⟩ <;> (refine keep_cell_d ?_ (by simp)) <;> repeat (first | assumption | refine keep_cell ?_ (by simp))) | go_keep | assumption) (fail)
  all_goals go_wp2_with fail
  all_goals refine leaves_cons (f := 37) (args := #[.pointer (some ⟨w.heap.size, 0, none⟩), .pointer (some ⟨w.heap.size + 1, 0, none⟩), .pointer (some ⟨w.heap.size + 1 + 1, 0, none⟩)]) (by simp) (by simp [go_sem]) ?_
  all_goals refine (trieCalls_idle _ _ _ _).mono ?_
  all_goals rintro e u' w5 ⟨rfl, rfl, rfl⟩
  all_goals have HKK : Aside0 (Chg [w.heap.size, w.heap.size + 1, w.heap.size + 1 + 1] w3 ((((w3.setCell ⟨w.heap.size, 0, none⟩ (.slice A4 n4 c4)).setCell ⟨w.heap.size + 1, 0, none⟩ (.slice A5 n5 c5)).setCell ⟨w.heap.size + 1 + 1, 0, none⟩ (.bool true))).drew) := ⟨((((Chg.refl _ w3).setCell (.inl (by simp)) _).setCell (.inl (by simp)) _).setCell (.inl (by simp)) _).drew⟩
  all_goals have hko : ∀ g, w2.heap.size ≤ g → g ∉ [w.heap.size, w.heap.size + 1, w.heap.size + 1 + 1] := by have := HZ2.out; simp only [List.mem_cons, List.not_mem_nil, or_false]; intro g hg; omega
  all_goals refine ⟨.tuple #[.slice A4 n4 c4, .slice A5 n5 c5, .bool true], ?_, .slice A4 n4 c4, .slice A5 n5 c5, rfl, ⟨HRA.out.chg HKK.out (fun g hg hm => hko g (HNA.out g hg) hm), HRB.out.chg HKK.out (fun g hg hm => hko g (HNB.out g hg) hm), ?_, fun g hg => Nat.le_trans (by have := HZ2.out; omega) (HNA.out g hg), fun g hg => Nat.le_trans (by have := HZ2.out; omega) (HNB.out g hg), HNE.out⟩⟩
  · have e1 := keep_cell (a := ⟨w.heap.size + 1 + 1, 0, none⟩) (y := .bool true) (keep_cell (a := ⟨w.heap.size + 1, 0, none⟩) (y := .slice A5 n5 c5) (keep_cell (a := ⟨w.heap.size, 0, none⟩) (y := .slice A4 n4 c4) d1 (fun _ => rfl)) (by simp)) (by simp)
    have e2 := keep_cell (a := ⟨w.heap.size + 1 + 1, 0, none⟩) (y := .bool true) (keep_cell (a := ⟨w.heap.size + 1, 0, none⟩) (y := .slice A5 n5 c5) (keep_cell (a := ⟨w.heap.size, 0, none⟩) (y := .slice A4 n4 c4) d2 (by simp)) (fun _ => rfl)) (by simp)
    have e3 := World.cell?_setCell_same ((w3.setCell ⟨w.heap.size, 0, none⟩ (.slice A4 n4 c4)).setCell ⟨w.heap.size + 1, 0, none⟩ (.slice A5 n5 c5)) ⟨w.heap.size + 1 + 1, 0, none⟩ (.bool true) (keep_cell (a := ⟨w.heap.size + 1, 0, none⟩) (y := .slice A5 n5 c5) (keep_cell (a := ⟨w.heap.size, 0, none⟩) (y := .slice A4 n4 c4) d3 (by simp)) (by simp))
    generalize ((w3.setCell ⟨w.heap.size, 0, none⟩ (.slice A4 n4 c4)).setCell ⟨w.heap.size + 1, 0, none⟩ (.slice A5 n5 c5)).setCell ⟨w.heap.size + 1 + 1, 0, none⟩ (.bool true) = w6 at *
    simp [results, Try.results23, go_sem, e1, e2, e3]
  · exact (((HC4.out.setCell (.inr (Nat.le_refl _)) _).setCell (.inr (by show w.heap.size ≤ w.heap.size + 1; omega)) _).setCell (.inr (by show w.heap.size ≤ w.heap.size + 1 + 1; omega)) _).drew
end Go.Proofs.Ytddcjmdcpkmnjaa.Da
namespace Go.Proofs.Ytddcjmdcpkmnjaa.P
open Go.RowKit Go.Proofs.YtddcjmdcpkmnjaaW.PrintWords Go.Proofs.YtddcjmdcpkmnjaaW.PrintLast Go.Proofs.YtddcjmdcpkmnjaaW.PrintMore Go.Proofs.Ytddcjmdcpkmnjaa.Gn Go.Proofs.Ytddcjmdcpkmnjaa.Da
def impl_TrieCalls.f (l0 : List ByteArray) (l1 : List Int) (s : ByteArray) : Option (List Int × List Int × Bool) :=
  if goodB l0 (idsOr l0 l1) ∧ textB s then some ((pfx l0 (idsOr l0 l1) s s.size).map (·.1), (pfx l0 (idsOr l0 l1) s s.size).map (·.2), true) else none
theorem impl_TrieCalls.calls (A0 : Option Addr) (c0 : Nat) (l0 : List ByteArray) (A1 : Option Addr) (c1 : Nat) (l1 : List Int) (s : ByteArray) (r1 r2 : List Int) (r3 : Bool) (w : World) (hr0 : Kd.C Kd.string w A0 l0.length l0) (hc0 : l0.length ≤ c0) (hr1 : Kd.C (Kd.int .i64) w A1 l1.length l1) (hc1 : l1.length ≤ c1) (h : impl_TrieCalls.f l0 l1 s = some (r1, r2, r3)) :
    Calls Try.prog 23 #[.slice A0 l0.length c0, .slice A1 l1.length c1, .string s] w fun e w' => ∃ v0_ v1_ : Value, e = .returned (.tuple #[v0_, v1_, .bool r3]) ∧ Kd.R (Kd.int .i64) 3 w' w.heap.size (fun k_ => some k_ ≠ (v1_ : Value).ownBlock) v0_ r1 ∧ Kd.R (Kd.int .i64) 3 w' w.heap.size (fun k_ => some k_ ≠ (v0_ : Value).ownBlock) v1_ r2 ∧ Below w.heap.size w w' := by
  unfold impl_TrieCalls.f at h
  split at h
  case isFalse => cases h
  rename_i hok
  injection h with h
  simp only [Prod.mk.injEq] at h
  obtain ⟨rfl, rfl, rfl⟩ := h
  refine (trieCalls_calls w A0 A1 c0 c1 l0 l1 s hr0 hr1 hok.1 hok.2).mono ?_
  rintro e w' ⟨va, vb, rfl, h2⟩
  refine ⟨va, vb, rfl, R_of_row (enc := Value.int .i64) ?_ (fun g hg => ⟨h2.na g hg, fun q => h2.ne g hg q.symm⟩), R_of_row (enc := Value.int .i64) ?_ (fun g hg => ⟨h2.nb g hg, fun q => h2.ne g q.symm hg⟩), h2.chg.toBelow (Nat.le_refl _) (by simp)⟩
  · have := h2.a; unfold fsts at this; rw [List.map_map]; exact this
  · have := h2.b; unfold snds at this; rw [List.map_map]; exact this
end Go.Proofs.Ytddcjmdcpkmnjaa.P
