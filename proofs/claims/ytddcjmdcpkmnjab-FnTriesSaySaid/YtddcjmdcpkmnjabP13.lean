-- PRINTED by print.py (a twelfth state) out of the translation. Not trusted: Lean checks it.
import Derived.Test.YtddcjmdcpkmnjabP0
import Derived.Test.YtddcjmdcpkmnjabP11
namespace Go.Proofs.Ytddcjmdcpkmnjab.P
open Go.RowKit Go.Proofs.YtddcjmdcpkmnjabW.PrintWords Go.Proofs.YtddcjmdcpkmnjabW.PrintLast
set_option linter.unusedVariables false
set_option linter.unusedSimpArgs false

/-! ### spec_TriePrefixes: function 13 -/
def spec_TriePrefixes.l0 : Nat → List ByteArray → List Int → ByteArray → List Int → List Int → Int → Option (List Int × List Int)
  | 0, _, _, _, _, _, _ => none
  | k + 1, x0, x1, x2, x6, x7, x8 => if x8 ≤ (x2.size : Int) then (if 0 ≤ x8 then ((spec_TrieFind.f k x0 x1 (x2.extract 0 (x8 : Int).toNat)).bind fun bt286 => (if bt286.2 = true then (if x6.length < 17592186044416 then (if x7.length < 17592186044416 then (spec_TriePrefixes.l0 k x0 x1 x2 (x6 ++ [bt286.1]) (x7 ++ [x8]) (wrap64 (x8 + 1))) else (none)) else (none)) else (spec_TriePrefixes.l0 k x0 x1 x2 x6 x7 (wrap64 (x8 + 1))))) else (none)) else (some (x6, x7))
def spec_TriePrefixes.f (k : Nat) (l0 : List ByteArray) (l1 : List Int) (a2 : ByteArray) : Option (List Int × List Int) := spec_TriePrefixes.l0 k l0 l1 a2 ([] : List Int) ([] : List Int) 1
theorem spec_TriePrefixes.mono_l : ∀ k, (∀ y0 y1 y2 y3 y4 y5, LeO (spec_TriePrefixes.l0 k y0 y1 y2 y3 y4 y5) (spec_TriePrefixes.l0 (k + 1) y0 y1 y2 y3 y4 y5))
  | 0 => fun _ _ _ _ _ _ r h => by simp [spec_TriePrefixes.l0] at h
  | k + 1 => by
    have ih0 := spec_TriePrefixes.mono_l k
    · intro y0 y1 y2 y3 y4 y5
      unfold spec_TriePrefixes.l0
      repeat' first
      | (with_reducible exact ih0 _ _ _ _ _ _)
      | (with_reducible exact spec_TrieFind.mono _ _ _ _)
      | (with_reducible exact LeO.refl _)
      | (with_reducible exact LeO.none _)
      | (with_reducible refine LeO.ite ?_ ?_)
      | (with_reducible refine LeO.bind ?_ (fun _ => ?_))
      | exact ih0 _ _ _ _ _ _
      | exact spec_TrieFind.mono _ _ _ _
      | exact LeO.none _
      | refine LeO.ite ?_ ?_
      | refine LeO.bind ?_ (fun _ => ?_)
theorem spec_TriePrefixes.mono : ∀ a0 a1 a2 k, LeO (spec_TriePrefixes.f k a0 a1 a2) (spec_TriePrefixes.f (k + 1) a0 a1 a2) := by
  intro a0 a1 a2 k
  have ih0 := spec_TriePrefixes.mono_l k
  unfold spec_TriePrefixes.f
  repeat' first
      | (with_reducible exact ih0 _ _ _ _ _ _)
      | (with_reducible exact spec_TrieFind.mono _ _ _ _)
      | (with_reducible exact LeO.refl _)
      | (with_reducible exact LeO.none _)
      | (with_reducible refine LeO.ite ?_ ?_)
      | (with_reducible refine LeO.bind ?_ (fun _ => ?_))
      | exact ih0 _ _ _ _ _ _
      | exact spec_TrieFind.mono _ _ _ _
      | exact LeO.none _
      | refine LeO.ite ?_ ?_
      | refine LeO.bind ?_ (fun _ => ?_)
set_option maxHeartbeats 8000000 in
set_option maxRecDepth 100000 in
theorem spec_TriePrefixes.calls (k : Nat) (A0 : Option Addr) (c0 : Nat) (l0 : List ByteArray) (A1 : Option Addr) (c1 : Nat) (l1 : List Int) (a2 : ByteArray) (r1 : List Int) (r2 : List Int) (w : World) (hr0 : Kd.C Kd.string w A0 l0.length l0) (hc0 : l0.length ≤ c0) (hr1 : Kd.C (Kd.int .i64) w A1 l1.length l1) (hc1 : l1.length ≤ c1) (h : spec_TriePrefixes.f k l0 l1 a2 = some (r1, r2)) :
    Calls Try.prog 13 #[.slice A0 l0.length c0, .slice A1 l1.length c1, .string a2] w fun e w' => ∃ v0_ v1_ : Value, e = .returned (.tuple #[v0_, v1_]) ∧ Kd.R (Kd.int .i64) 3 w' w.heap.size (fun k_ => some k_ ≠ (v1_ : Value).ownBlock) v0_ r1 ∧ Kd.R (Kd.int .i64) 3 w' w.heap.size (fun k_ => some k_ ≠ (v0_ : Value).ownBlock) v1_ r2 ∧ Below w.heap.size w w' := by
  have HR0 := Aside0.mk hr0
  have HC0 := Aside0.mk hc0
  clear hr0 hc0
  have HR1 := Aside0.mk hr1
  have HC1 := Aside0.mk hc1
  clear hr1 hc1
  have HB := Aside0.mk (Below.refl w.heap.size w)
  have H : (spec_TriePrefixes.l0 k l0 l1 a2 ([] : List Int) ([] : List Int) 1) = some (r1, r2) := h
  clear h
  have H' := Aside0.mk H
  clear H
  go_enter Try.func13, Try.ntmps13
  go_wp2
  go_loopg [6, 7, 8] k (fun kq v6 v7 v8 w' => ∃ (x6_1 : List Int) (x7_1 : List Int) (x8_1 : Int), v8 = .int .i64 x8_1 ∧ Aside0 (spec_TriePrefixes.l0 kq l0 l1 a2 x6_1 x7_1 x8_1 = some (r1, r2)) ∧ Aside0 (kq ≤ k) ∧ Aside0 (Kd.R (Kd.int .i64) 3 w' w.heap.size (fun k_ => some k_ ≠ (v7 : Value).ownBlock) v6 x6_1) ∧ Aside0 (Kd.R (Kd.int .i64) 3 w' w.heap.size (fun k_ => some k_ ≠ (v6 : Value).ownBlock) v7 x7_1) ∧ Aside0 (Below w.heap.size w w'))
  case atStart => exact ⟨(([] : List Int)), (([] : List Int)), (1), (by first | rfl | (simp; done) | (simp [*]; done)), H', ⟨Nat.le_refl _⟩, ⟨by first | exact Kd.R_nil _ _ _ _ _ | exact Kd.N_nil _ _ _ _ _ | exact Kd.V_nil _ _ _ _ _ | exact Kd.Q_nil _ _ _ _ _ | exact Kd.S_nil _ _ _ _ _⟩, ⟨by first | exact Kd.R_nil _ _ _ _ _ | exact Kd.N_nil _ _ _ _ _ | exact Kd.V_nil _ _ _ _ _ | exact Kd.Q_nil _ _ _ _ _ | exact Kd.S_nil _ _ _ _ _⟩, ⟨by repeat (first | (with_reducible first | exact HB.out | apply below_alloc | apply pw_below_drewN | apply below_drew1) | exact HB.out)⟩⟩
  case round =>
    clear H'
    try clear c1
    try clear p2
    obtain ⟨x6_1, x7_1, x8_1, rfl, HA, HK1, HO_6, HO_7, HB⟩ := hrel
    cases gk with
    | zero => exact absurd HA.out (by simp [spec_TriePrefixes.l0])
    | succ k1 =>
      have H := HA.out
      clear HA
      simp only [spec_TriePrefixes.l0] at H
      by_cases c4 : x8_1 ≤ (a2.size : Int)
      · rw [if_pos c4] at H
        have c4b0 : decide (x8_1 ≤ (a2.size : Int)) = true := decide_eq_true c4
        clear c4
        by_cases c5 : 0 ≤ x8_1
        · rw [if_pos c5] at H
          have c5b0 := eq_true c5
          have c5b1 : decide (0 ≤ x8_1) = true := decide_eq_true c5
          clear c5
          have c6b0 := eq_true (of_decide_eq_true (by first | (with_reducible assumption) | assumption) : x8_1 ≤ (a2.size : Int))
          replace H := Option.bind_eq_some_iff.mp H
          obtain ⟨⟨t286, t287⟩, A70, H⟩ := H
          replace H : (if t287 = true then (if x6_1.length < 17592186044416 then (if x7_1.length < 17592186044416 then (spec_TriePrefixes.l0 k1 l0 l1 a2 (x6_1 ++ [t286]) (x7_1 ++ [x8_1]) (wrap64 (x8_1 + 1))) else (none)) else (none)) else (spec_TriePrefixes.l0 k1 l0 l1 a2 x6_1 x7_1 (wrap64 (x8_1 + 1)))) = some (r1, r2) := H
          have A7 := Aside0.mk A70
          clear A70
          by_cases c8 : t287 = true
          · subst c8
            have H1 : (if x6_1.length < 17592186044416 then (if x7_1.length < 17592186044416 then (spec_TriePrefixes.l0 k1 l0 l1 a2 (x6_1 ++ [t286]) (x7_1 ++ [x8_1]) (wrap64 (x8_1 + 1))) else (none)) else (none)) = some (r1, r2) := by rw [if_pos rfl] at H; exact H
            clear H
            have H := H1
            clear H1
            by_cases c9 : x6_1.length < 17592186044416
            · rw [if_pos c9] at H
              have LMc9 := Aside0.mk c9
              clear c9
              obtain ⟨y288, hy288⟩ : ∃ y_ : List Int, y_ = (x6_1 ++ [t286]) := ⟨_, rfl⟩
              replace H : (if x7_1.length < 17592186044416 then (spec_TriePrefixes.l0 k1 l0 l1 a2 y288 (x7_1 ++ [x8_1]) (wrap64 (x8_1 + 1))) else (none)) = some (r1, r2) := by first | (rw [hy288]; with_reducible exact H) | (have H2_ := (Option.bind_some _ _).symm.trans H; rw [hy288]; with_reducible exact H2_) | (have H2_ := (Option.bind_some _ _).symm.trans H; with_reducible exact H2_) | with_reducible exact H | (rw [hy288]; exact H) | exact H
              have Ny288 := Aside0.mk hy288
              clear hy288
              by_cases c10 : x7_1.length < 17592186044416
              · rw [if_pos c10] at H
                have LMc10 := Aside0.mk c10
                clear c10
                obtain ⟨y291, hy291⟩ : ∃ y_ : List Int, y_ = (x7_1 ++ [x8_1]) := ⟨_, rfl⟩
                replace H : (spec_TriePrefixes.l0 k1 l0 l1 a2 y288 y291 (wrap64 (x8_1 + 1))) = some (r1, r2) := by first | (rw [hy291]; with_reducible exact H) | (have H2_ := (Option.bind_some _ _).symm.trans H; rw [hy291]; with_reducible exact H2_) | (have H2_ := (Option.bind_some _ _).symm.trans H; with_reducible exact H2_) | with_reducible exact H | (rw [hy291]; exact H) | exact H
                have Ny291 := Aside0.mk hy291
                clear hy291
                have H' := Aside0.mk H
                clear H
                go_wp2_with (first | ((with_reducible refine gate_callee (f := 11) rfl ?_); refine goesL_ (some 23) rfl rfl Try.func11 (by kernel_rfl) rfl #[.slice A0 l0.length c0, .slice A1 l1.length c1, .string (a2.extract 0 (x8_1 : Int).toNat)] rfl (by (try simp only [List.map_toArray, List.map_cons, List.map_nil]); first | done | rfl | (simp only [List.length_drop, List.length_take]; rfl)) ?_; (with_reducible refine (spec_TrieFind.calls k1 _ _ l0 _ _ l1 (a2.extract 0 (x8_1 : Int).toNat) t286 true _ ?side1 ?side2 ?side3 ?side4 A7.out).mono ?_); (case side1 => repeat (first | exact (Kd.C_below HR0.out HB.out) | (with_reducible refine Kd.C_alloc ?_ _) | (with_reducible refine Kd.C_drewN ?_ _) | (with_reducible refine Kd.C_drew ?_))); (case side2 => exact HC0.out); (case side3 => repeat (first | exact (Kd.C_below HR1.out HB.out) | (with_reducible refine Kd.C_alloc ?_ _) | (with_reducible refine Kd.C_drewN ?_ _) | (with_reducible refine Kd.C_drew ?_))); (case side4 => exact HC1.out); rintro e w' ⟨rfl, ⟨nd, rfl⟩⟩; refine ⟨_, rfl, ?_⟩) | ((with_reducible refine gate_builtin (b := .append) (xs := #[.tmp 27, .tmp 29]) rfl ?_); at_builtin; refine Kd.R_append (Kd.int .i64) (w0 := w) w.heap.size rfl (.tmp 27) (.tmp 29) 23 3 (.int .i64 0) 8 rfl Try.underlying23 info3 rfl (by decide) (by omega) u6 x6_1 t286 [.int .i64 t286] (fun k_ => some k_ ≠ (u7 : Value).ownBlock) (fun _ => False) rfl rfl ?aP (fun _ hk => hk.elim) ?aF ?aO ?aB ?aS ?aL ?_; (case aP => exact rfl); (case aB => exact (by repeat (first | (with_reducible first | exact HB.out | apply below_alloc | apply pw_below_drewN | apply below_drew1) | exact HB.out))); (case aF => exact (fun k_ hk => Kd.fresh' (Kd.R_lt (by (with_reducible repeat (first | apply Kd.R_alloc | apply Kd.R_drewN | apply Kd.R_drew)); exact HO_7.out)) k_ hk)); (case aO => exact (by (with_reducible repeat (first | apply Kd.R_alloc | apply Kd.R_drewN | apply Kd.R_drew)); exact HO_6.out)); (case aS => exact (below_size (by repeat (first | (with_reducible first | exact HB.out | apply below_alloc | apply pw_below_drewN | apply below_drew1) | exact HB.out)))); (case aL => have := LMc9.out; omega); intro v289 w11 ho hb hg hat; rw [← Ny288.out] at ho; have n0_ := Aside0.mk (Kd.R_after (ok := (fun _ => True)) (by (with_reducible repeat (first | apply Kd.R_alloc | apply Kd.R_drewN | apply Kd.R_drew)); exact Kd.R_mono HO_7.out (fun _ hk => ⟨trivial, hk⟩)) hg hat); have n1_ := Aside0.mk (hb); have n2_ := Aside0.mk (ho); clear HO_7; clear HB; clear HO_6; have HO_7 := n0_; have HB := n1_; have HO290 := n2_; clear n0_ n1_ n2_; clear ho hb hg hat) | ((with_reducible refine gate_builtin (b := .append) (xs := #[.tmp 31, .tmp 33]) rfl ?_); at_builtin; refine Kd.R_append (Kd.int .i64) (w0 := w) w.heap.size rfl (.tmp 31) (.tmp 33) 23 3 (.int .i64 0) 8 rfl Try.underlying23 info3 rfl (by decide) (by omega) u7 x7_1 x8_1 [.int .i64 x8_1] (fun k_ => some k_ ≠ (v289 : Value).ownBlock) (fun _ => False) rfl rfl ?aP (fun _ hk => hk.elim) ?aF ?aO ?aB ?aS ?aL ?_; (case aP => exact rfl); (case aB => exact (by repeat (first | (with_reducible first | exact HB.out | apply below_alloc | apply pw_below_drewN | apply below_drew1) | exact HB.out))); (case aF => exact (fun k_ hk => Kd.fresh' (Kd.R_lt (by (with_reducible repeat (first | apply Kd.R_alloc | apply Kd.R_drewN | apply Kd.R_drew)); exact HO290.out)) k_ hk)); (case aO => exact (by (with_reducible repeat (first | apply Kd.R_alloc | apply Kd.R_drewN | apply Kd.R_drew)); exact Kd.R_mono HO_7.out (fun _ hk => hk.2))); (case aS => exact (below_size (by repeat (first | (with_reducible first | exact HB.out | apply below_alloc | apply pw_below_drewN | apply below_drew1) | exact HB.out)))); (case aL => have := LMc10.out; omega); intro v292 w12 ho hb hg hat; rw [← Ny291.out] at ho; have n0_ := Aside0.mk (Kd.R_after (ok := (fun _ => True)) (by (with_reducible repeat (first | apply Kd.R_alloc | apply Kd.R_drewN | apply Kd.R_drew)); exact Kd.R_mono HO290.out (fun _ hk => ⟨trivial, hk⟩)) hg hat); have n1_ := Aside0.mk (hb); have n2_ := Aside0.mk (ho); clear HO290; clear HB; clear HO_7; have HO290 := n0_; have HB := n1_; have HO293 := n2_; clear n0_ n1_ n2_; clear ho hb hg hat))
                go_roundg k1
                case measure => have := HK1.out; omega
                case rel => exact ⟨(y288), (y291), (wrap64 (x8_1 + 1)), (by first | rfl | (simp; done) | (simp [*]; done)), H', ⟨by have := HK1.out; omega⟩, ⟨by (with_reducible repeat (first | apply Kd.R_alloc | apply Kd.R_drewN | apply Kd.R_drew)); exact Kd.R_mono HO290.out (fun _ hk => hk.2)⟩, ⟨by (with_reducible repeat (first | apply Kd.R_alloc | apply Kd.R_drewN | apply Kd.R_drew)); exact HO293.out⟩, ⟨by repeat (first | (with_reducible first | exact HB.out | apply below_alloc | apply pw_below_drewN | apply below_drew1) | exact HB.out)⟩⟩
              · rw [if_neg c10] at H
                exact absurd H (by simp)
            · rw [if_neg c9] at H
              exact absurd H (by simp)
          · replace c8 := Bool.eq_false_iff.mpr c8
            subst c8
            have H1 : (spec_TriePrefixes.l0 k1 l0 l1 a2 x6_1 x7_1 (wrap64 (x8_1 + 1))) = some (r1, r2) := by rw [if_neg (show ¬ (false = true) by decide)] at H; exact H
            clear H
            have H := H1
            clear H1
            have H' := Aside0.mk H
            clear H
            go_wp2_with (first | ((with_reducible refine gate_callee (f := 11) rfl ?_); refine goesL_ (some 23) rfl rfl Try.func11 (by kernel_rfl) rfl #[.slice A0 l0.length c0, .slice A1 l1.length c1, .string (a2.extract 0 (x8_1 : Int).toNat)] rfl (by (try simp only [List.map_toArray, List.map_cons, List.map_nil]); first | done | rfl | (simp only [List.length_drop, List.length_take]; rfl)) ?_; (with_reducible refine (spec_TrieFind.calls k1 _ _ l0 _ _ l1 (a2.extract 0 (x8_1 : Int).toNat) t286 false _ ?side1 ?side2 ?side3 ?side4 A7.out).mono ?_); (case side1 => repeat (first | exact (Kd.C_below HR0.out HB.out) | (with_reducible refine Kd.C_alloc ?_ _) | (with_reducible refine Kd.C_drewN ?_ _) | (with_reducible refine Kd.C_drew ?_))); (case side2 => exact HC0.out); (case side3 => repeat (first | exact (Kd.C_below HR1.out HB.out) | (with_reducible refine Kd.C_alloc ?_ _) | (with_reducible refine Kd.C_drewN ?_ _) | (with_reducible refine Kd.C_drew ?_))); (case side4 => exact HC1.out); rintro e w' ⟨rfl, ⟨nd, rfl⟩⟩; refine ⟨_, rfl, ?_⟩))
            go_roundg k1
            case measure => have := HK1.out; omega
            case rel => exact ⟨(x6_1), (x7_1), (wrap64 (x8_1 + 1)), (by first | rfl | (simp; done) | (simp [*]; done)), H', ⟨by have := HK1.out; omega⟩, ⟨by (with_reducible repeat (first | apply Kd.R_alloc | apply Kd.R_drewN | apply Kd.R_drew)); exact HO_6.out⟩, ⟨by (with_reducible repeat (first | apply Kd.R_alloc | apply Kd.R_drewN | apply Kd.R_drew)); exact HO_7.out⟩, ⟨by repeat (first | (with_reducible first | exact HB.out | apply below_alloc | apply pw_below_drewN | apply below_drew1) | exact HB.out)⟩⟩
        · rw [if_neg c5] at H
          exact absurd H (by simp)
      · rw [if_neg c4] at H
        have c4b0 : decide (x8_1 ≤ (a2.size : Int)) = false := decide_eq_false c4
        clear c4
        simp only [Option.some.injEq, Prod.mk.injEq] at H
        obtain ⟨rfl, rfl⟩ := H
        go_wp2
        go_ret2
        exact ⟨_, _, by first | rfl | (simp [errW_none, errW_some] <;> rfl) | (simp [*, errW_none, errW_some] <;> rfl), by (with_reducible repeat (first | apply Kd.R_alloc | apply Kd.R_drewN | apply Kd.R_drew)); exact HO_6.out, by (with_reducible repeat (first | apply Kd.R_alloc | apply Kd.R_drewN | apply Kd.R_drew)); exact HO_7.out, by repeat (first | (with_reducible first | exact HB.out | apply below_alloc | apply pw_below_drewN | apply below_drew1) | exact HB.out)⟩

end Go.Proofs.Ytddcjmdcpkmnjab.P
