-- PRINTED by print.py (a twelfth state) out of the translation. Not trusted: Lean checks it.
import Derived.Test.YthecfligfhpccaaP0
import Derived.Test.YthecfligfhpccaaP32
namespace Go.Proofs.Ythecfligfhpccaa.P
open Go.RowKit Go.Proofs.YthecfligfhpccaaW.PrintWords Go.Proofs.YthecfligfhpccaaW.PrintLast Go.Proofs.YthecfligfhpccaaW.PrintMore
attribute [local go_sem] max2_int min2_int max_two min_two max_three min_three max_four min_four   -- for this text's walks alone
set_option linter.unusedVariables false
set_option linter.unusedSimpArgs false

/-! ### dict_NewContents: function 24 -/
def dict_NewContents.l0 : Nat → List (List ByteArray) → List ByteArray → Int → Int → Option ((List (List ByteArray)))
  | 0, _, _, _, _ => none
  | k + 1, x5, x15, x16, x17 => if x17 < x16 then (if 0 ≤ x17 then (if x17 < (x15.length : Int) then ((dict_zzSplit.f k (rdOf ByteArray.empty x15 x17) (⟨#[7]⟩ : ByteArray)).bind fun t128 => (if x17 < (x5.length : Int) then (dict_NewContents.l0 k (x5.set (x17 : Int).toNat t128) x15 x16 (wrap64 (x17 + 1))) else (none))) else (none)) else (none)) else (some x5)
def dict_NewContents.f (k : Nat) (l0 : List Int) : Option ((List (List ByteArray))) := (dict_zzSplit.f k (strOfNums l0) (⟨#[10]⟩ : ByteArray)).bind fun t121 => (if 0 ≤ (t121.length : Int) then (if ((t121.length : Int) : Int).toNat ≤ 11728124029610 then (dict_NewContents.l0 k (List.replicate ((t121.length : Int) : Int).toNat []) t121 (t121.length : Int) 0) else (none)) else (none))
theorem dict_NewContents.mono_l : ∀ k, (∀ y0 y1 y2 y3, LeO (dict_NewContents.l0 k y0 y1 y2 y3) (dict_NewContents.l0 (k + 1) y0 y1 y2 y3))
  | 0 => fun _ _ _ _ r h => by simp [dict_NewContents.l0] at h
  | k + 1 => by
    have ih0 := dict_NewContents.mono_l k
    · intro y0 y1 y2 y3
      unfold dict_NewContents.l0
      repeat' first
      | (with_reducible exact ih0 _ _ _ _)
      | (with_reducible exact dict_zzSplit.mono _ _ _)
      | (with_reducible exact LeO.refl _)
      | (with_reducible exact LeO.none _)
      | (with_reducible refine LeO.ite ?_ ?_)
      | (with_reducible refine LeO.bind ?_ (fun _ => ?_))
      | exact ih0 _ _ _ _
      | exact dict_zzSplit.mono _ _ _
      | exact LeO.none _
      | refine LeO.ite ?_ ?_
      | refine LeO.bind ?_ (fun _ => ?_)
theorem dict_NewContents.mono : ∀ a0 k, LeO (dict_NewContents.f k a0) (dict_NewContents.f (k + 1) a0) := by
  intro a0 k
  have ih0 := dict_NewContents.mono_l k
  unfold dict_NewContents.f
  repeat' first
      | (with_reducible exact ih0 _ _ _ _)
      | (with_reducible exact dict_zzSplit.mono _ _ _)
      | (with_reducible exact LeO.refl _)
      | (with_reducible exact LeO.none _)
      | (with_reducible refine LeO.ite ?_ ?_)
      | (with_reducible refine LeO.bind ?_ (fun _ => ?_))
      | exact ih0 _ _ _ _
      | exact dict_zzSplit.mono _ _ _
      | exact LeO.none _
      | refine LeO.ite ?_ ?_
      | refine LeO.bind ?_ (fun _ => ?_)
set_option maxHeartbeats 8000000 in
set_option maxRecDepth 100000 in
theorem dict_NewContents.calls (k : Nat) (A0 : Option Addr) (c0 : Nat) (l0 : List Int) (r : List (List ByteArray)) (w : World) (hr0 : Kd.C (Kd.int .u8) w A0 l0.length l0) (hc0 : l0.length ≤ c0) (h : dict_NewContents.f k l0 = some r) :
    Calls Try.prog 24 #[.slice A0 l0.length c0] w fun e w' => ∃ v0_ : Value, e = .returned (v0_) ∧ Kd.S (Kd.slice 9 Kd.string) 26 w' w.heap.size (fun _ => True) v0_ r ∧ Below w.heap.size w w' := by
  have HR0 := Aside0.mk hr0
  have HC0 := Aside0.mk hc0
  clear hr0 hc0
  have HB := Aside0.mk (Below.refl w.heap.size w)
  have H : ((dict_zzSplit.f k (strOfNums l0) (⟨#[10]⟩ : ByteArray)).bind fun t121 => (if 0 ≤ (t121.length : Int) then (if ((t121.length : Int) : Int).toNat ≤ 11728124029610 then (dict_NewContents.l0 k (List.replicate ((t121.length : Int) : Int).toNat []) t121 (t121.length : Int) 0) else (none)) else (none))) = some r := h
  clear h
  replace H := Option.bind_eq_some_iff.mp H
  obtain ⟨t121, A20, H⟩ := H
  replace H : (if 0 ≤ (t121.length : Int) then (if ((t121.length : Int) : Int).toNat ≤ 11728124029610 then (dict_NewContents.l0 k (List.replicate ((t121.length : Int) : Int).toNat []) t121 (t121.length : Int) 0) else (none)) else (none)) = some r := H
  have A2 := Aside0.mk A20
  clear A20
  by_cases c3 : 0 ≤ (t121.length : Int)
  · rw [if_pos c3] at H
    have c3b0 := eq_true c3
    have c3b1 : decide (0 ≤ (t121.length : Int)) = true := decide_eq_true c3
    clear c3
    by_cases c4 : ((t121.length : Int) : Int).toNat ≤ 11728124029610
    · rw [if_pos c4] at H
      have c4b0 := eq_true c4
      have c4b1 : decide (((t121.length : Int) : Int).toNat ≤ 11728124029610) = true := decide_eq_true c4
      clear c4
      obtain ⟨y124, hy124⟩ : ∃ y_ : List (List ByteArray), y_ = (List.replicate ((t121.length : Int) : Int).toNat []) := ⟨_, rfl⟩
      replace H : (dict_NewContents.l0 k y124 t121 (t121.length : Int) 0) = some r := by first | (rw [hy124]; with_reducible exact H) | (have H2_ := (Option.bind_some _ _).symm.trans H; rw [hy124]; with_reducible exact H2_) | (have H2_ := (Option.bind_some _ _).symm.trans H; with_reducible exact H2_) | with_reducible exact H | (rw [hy124]; exact H) | exact H
      have Ny124 := Aside0.mk hy124
      clear hy124
      have H' := Aside0.mk H
      clear H
      have hcv5 := Kd.C_string (P := Try.prog) (A := A0) (c := c0) Try.underlying46 Try.underlying5 Try.underlying9 HR0.out
      go_enter Try.func24, Try.ntmps24
      go_wp2_with (first | ((with_reducible refine gate_callee (f := 32) rfl ?_); refine goesL_ (some 11) rfl rfl Try.func32 (by kernel_rfl) rfl #[.string (strOfNums l0), .string (⟨#[10]⟩ : ByteArray)] rfl (by (try simp only [List.map_toArray, List.map_cons, List.map_nil]); first | done | rfl | (simp only [List.length_drop, List.length_take]; rfl)) ?_; (with_reducible refine (dict_zzSplit.calls k (strOfNums l0) (⟨#[10]⟩ : ByteArray) t121 _ A2.out).mono ?_); rintro e w6 ⟨v122, rfl, ho0, hb⟩; refine ⟨_, rfl, ?_⟩; have n0_ := Aside0.mk (Kd.R_lower ho0 (below_size (by repeat (first | (with_reducible first | exact HB.out | apply below_alloc | apply pw_below_drewN | apply below_drew1) | exact HB.out)))); have n1_ := Aside0.mk (below_step (by repeat (first | (with_reducible first | exact HB.out | apply below_alloc | apply pw_below_drewN | apply below_drew1) | exact HB.out)) hb); clear HB; have HO123 := n0_; have HB := n1_; clear n0_ n1_; (try clear hb); (try clear hb2); (try clear hk); (try clear hi); (try clear ho0); obtain ⟨Ao7, co7, eo7⟩ := Kd.R_slice HO123.out; subst eo7) | ((with_reducible refine gate_dst (N := 14) rfl ?_); refine Kd.S_make (Kd.slice 9 Kd.string) _ 26 rfl (N := 14) rfl 22 _ _ rfl (t121.length : Int) rfl rfl Try.underlying22 (.slice none 0 0) 24 info26 rfl (by decide) (by omega) [] (ok := fun _ => True) (okp := fun _ => True) ⟨_, rfl, Kd.R_nil _ _ _ _ _⟩ (fun _ hk => hk) trivial (of_decide_eq_true (by first | (with_reducible assumption) | assumption)) (Nat.le_trans (Nat.mul_le_mul_right _ (of_decide_eq_true (by first | (with_reducible assumption) | assumption) : (t121.length : Int).toNat ≤ 11728124029610)) (by omega)) (Below.refl _ _) (Nat.le_refl _) ?_; intro v125 w8 ho9 hb hg_ hnew_; clear hg_ hnew_; (first | rw [← Ny124.out] at ho9 | (simp only [Int.reduceToNat] at ho9; rw [← Ny124.out] at ho9)); have n0_ := Aside0.mk (Kd.R_below (by (with_reducible repeat (first | apply Kd.R_alloc | apply Kd.R_drewN | apply Kd.R_drew)); exact HO123.out) hb); have n1_ := Aside0.mk (Kd.S_lower (Kd.S_new' ho9 (Kd.R_lt (by (with_reducible repeat (first | apply Kd.R_alloc | apply Kd.R_drewN | apply Kd.R_drew)); exact HO123.out))) (below_size (by repeat (first | (with_reducible first | exact HB.out | apply below_alloc | apply pw_below_drewN | apply below_drew1) | exact HB.out)))); have n2_ := Aside0.mk (below_step (by repeat (first | (with_reducible first | exact HB.out | apply below_alloc | apply pw_below_drewN | apply below_drew1) | exact HB.out)) hb); clear HO123; clear HB; have HO123 := n0_; have HO126 := n1_; have HB := n2_; clear n0_ n1_ n2_; clear hb ho9))
      go_loopg [17] k (fun kq v17 w' => ∃ (x5_1 : List (List ByteArray)) (x17_1 : Int), v17 = .int .i64 x17_1 ∧ Aside0 (dict_NewContents.l0 kq x5_1 t121 (t121.length : Int) x17_1 = some r) ∧ Aside0 (kq ≤ k) ∧ Aside0 (Kd.S (Kd.slice 9 Kd.string) 26 w' w.heap.size (fun k_ => some k_ ≠ ((.slice Ao7 t121.length co7) : Value).ownBlock) v125 x5_1) ∧ Aside0 (Kd.R Kd.string 9 w' w.heap.size (fun _ => True) (.slice Ao7 t121.length co7) t121) ∧ Aside0 (Below w.heap.size w w'))
      case atStart => exact ⟨(y124), (0), (by first | rfl | (simp; done) | (simp [*]; done)), H', ⟨Nat.le_refl _⟩, ⟨by (with_reducible repeat (first | apply Kd.S_alloc | apply Kd.S_drewN | apply Kd.S_drew)); exact Kd.S_mono HO126.out (fun _ hk => hk.2)⟩, ⟨by (with_reducible repeat (first | apply Kd.R_alloc | apply Kd.R_drewN | apply Kd.R_drew)); exact HO123.out⟩, ⟨by repeat (first | (with_reducible first | exact HB.out | apply below_alloc | apply pw_below_drewN | apply below_drew1) | exact HB.out)⟩⟩
      case round =>
        clear H'
        try clear c2
        try clear p2
        try clear c3
        try clear c3b0
        try clear c3b1
        try clear c4
        try clear c4b0
        try clear c4b1
        try clear hcv5
        obtain ⟨x5_1, x17_1, rfl, HA, HK1, HO_5, HO_15, HB⟩ := hrel
        cases gk with
        | zero => exact absurd HA.out (by simp [dict_NewContents.l0])
        | succ k1 =>
          have H := HA.out
          clear HA
          simp only [dict_NewContents.l0] at H
          by_cases c10 : x17_1 < (t121.length : Int)
          · rw [if_pos c10] at H
            have c10b0 : decide (x17_1 < (t121.length : Int)) = true := decide_eq_true c10
            clear c10
            by_cases c11 : 0 ≤ x17_1
            · rw [if_pos c11] at H
              have c11b0 : decide (0 ≤ x17_1) = true := decide_eq_true c11
              clear c11
              by_cases c12 : x17_1 < (t121.length : Int)
              · rw [if_pos c12] at H
                have c12b0 : decide (x17_1 < (t121.length : Int)) = true := decide_eq_true c12
                clear c12
                replace H := Option.bind_eq_some_iff.mp H
                obtain ⟨t128, A130, H⟩ := H
                replace H : (if x17_1 < (x5_1.length : Int) then (dict_NewContents.l0 k1 (x5_1.set (x17_1 : Int).toNat t128) t121 (t121.length : Int) (wrap64 (x17_1 + 1))) else (none)) = some r := H
                have A13 := Aside0.mk A130
                clear A130
                by_cases c14 : x17_1 < (x5_1.length : Int)
                · rw [if_pos c14] at H
                  have c14b0 : decide (x17_1 < (x5_1.length : Int)) = true := decide_eq_true c14
                  clear c14
                  obtain ⟨y131, hy131⟩ : ∃ y_ : List (List ByteArray), y_ = (x5_1.set (x17_1 : Int).toNat t128) := ⟨_, rfl⟩
                  replace H : (dict_NewContents.l0 k1 y131 t121 (t121.length : Int) (wrap64 (x17_1 + 1))) = some r := by first | (rw [hy131]; with_reducible exact H) | (have H2_ := (Option.bind_some _ _).symm.trans H; rw [hy131]; with_reducible exact H2_) | (have H2_ := (Option.bind_some _ _).symm.trans H; with_reducible exact H2_) | with_reducible exact H | (rw [hy131]; exact H) | exact H
                  have Ny131 := Aside0.mk hy131
                  clear hy131
                  have H' := Aside0.mk H
                  clear H
                  have p127 : 0 ≤ (x17_1 : Int) := of_decide_eq_true (by first | (with_reducible assumption) | assumption)
                  have q127 : x17_1 < (t121.length : Int) := of_decide_eq_true (by first | (with_reducible assumption) | assumption)
                  obtain ⟨ad127, e127, hx127_0⟩ := Kd.at_string (Kd.R_reads' HO_15.out).2.2 x17_1 p127 q127
                  cases e127
                  replace p127 := eq_true p127
                  replace q127 := eq_true q127
                  go_wp2_with (first | ((with_reducible refine gate_callee (f := 32) rfl ?_); refine goesL_ (some 25) rfl rfl Try.func32 (by kernel_rfl) rfl #[.string (rdOf ByteArray.empty t121 x17_1), .string (⟨#[7]⟩ : ByteArray)] rfl (by (try simp only [List.map_toArray, List.map_cons, List.map_nil]); first | done | rfl | (simp only [List.length_drop, List.length_take]; rfl)) ?_; (with_reducible refine (dict_zzSplit.calls k1 (rdOf ByteArray.empty t121 x17_1) (⟨#[7]⟩ : ByteArray) t128 _ A13.out).mono ?_); rintro e w16 ⟨v129, rfl, ho0, hb⟩; obtain ⟨Aq129, cq129, rfl⟩ := Kd.R_slice ho0; refine ⟨_, rfl, ?_⟩; have n0_ := Aside0.mk (Kd.S_elder' (by (with_reducible repeat (first | apply Kd.S_alloc | apply Kd.S_drewN | apply Kd.S_drew)); exact HO_5.out) (by first | exact Kd.N_base ho0 | exact Kd.S_base ho0 | exact Kd.R_base ho0) hb); have n1_ := Aside0.mk (Kd.R_elder' (by (with_reducible repeat (first | apply Kd.R_alloc | apply Kd.R_drewN | apply Kd.R_drew)); exact HO_15.out) (by first | exact Kd.N_base ho0 | exact Kd.S_base ho0 | exact Kd.R_base ho0) hb); have n2_ := Aside0.mk (Kd.R_lower (Kd.R_new' ho0 (Kd.R_lt (by (with_reducible repeat (first | apply Kd.R_alloc | apply Kd.R_drewN | apply Kd.R_drew)); exact HO_15.out))) (below_size (by repeat (first | (with_reducible first | exact HB.out | apply below_alloc | apply pw_below_drewN | apply below_drew1) | exact HB.out)))); have n3_ := Aside0.mk (below_step (by repeat (first | (with_reducible first | exact HB.out | apply below_alloc | apply pw_below_drewN | apply below_drew1) | exact HB.out)) hb); clear HO_5; clear HO_15; clear HB; have HO_5 := n0_; have HO_15 := n1_; have HO130 := n2_; have HB := n3_; clear n0_ n1_ n2_ n3_; (try clear hb); (try clear hb2); (try clear hk); (try clear hi); (try clear ho0); have p15 : 0 ≤ (x17_1 : Int) := of_decide_eq_true (by first | (with_reducible assumption) | assumption); have q15 : (x17_1 : Int) < ((x5_1.length : Int) : Int) := of_decide_eq_true (by first | (with_reducible assumption) | assumption); obtain ⟨go15, co15, eo15, gb15, gl15, cl15, HG15⟩ := Kd.S_form HO_5.out (by omega); (first | cases eo15 | (injection eo15 with ea_ en_ ec_; (first | subst ea_ | (injection ea_ with ea_; subst ea_)); subst ec_; clear en_)); have GB15 := Aside0.mk gb15; have GG15 := Aside0.mk HG15; clear gb15 gl15 HG15; obtain ⟨_, ce15, hcl15, hM15, hcc15, hfr15, _, _⟩ := Kd.S_elem HO_5.out [] (x17_1 : Int) p15 q15; obtain ⟨ve15_0, rfl, ge15_0⟩ := hM15; have hx15_0 := hcc15 0 _ rfl; have hf15_0 := hfr15 0; (try simp only [show ((Kd.slice 9 Kd.string)).sz = 1 from rfl, Nat.mul_one, Nat.add_zero] at hx15_0); (try simp only [show ((Kd.slice 9 Kd.string)).sz = 1 from rfl, Nat.mul_one, Nat.add_zero] at hf15_0); clear hcl15 hcc15 hfr15; (try clear hM15); replace p15 := eq_true p15; replace q15 := eq_true q15; have HX17 := Aside0.mk (show Kd.S (Kd.slice 9 Kd.string) 26 w16 w.heap.size (fun k_ => ((fun k_ => some k_ ≠ (.slice (some ad127) t121.length co7 : Value).ownBlock)) k_ ∧ ¬ ((fun k_ => some k_ = ((.slice Aq129 t128.length cq129) : Value).ownBlock)) k_) (.slice (some ⟨go15, 0, none⟩) x5_1.length co15) x5_1 from (by (with_reducible repeat (first | apply Kd.S_alloc | apply Kd.S_drewN | apply Kd.S_drew)); exact Kd.S_mono HO_5.out (fun k_ hk => ⟨hk.1, fun e_ => hk.2 e_⟩))); obtain ⟨oki17, ce17, hcl17, hM17, hcc17, hfr17, hoki17, hH17⟩ := Kd.S_elem HX17.out [] (x17_1 : Int) (of_decide_eq_true (by first | (with_reducible assumption) | assumption)) (by have h_ : (x17_1 : Int) < ((x5_1.length : Int) : Int) := of_decide_eq_true (by first | (with_reducible assumption) | assumption); first | exact h_ | (have e_ := (Kd.S_reads' HO_5.out).1; omega) | simpa using h_); obtain ⟨ve17_0, rfl, ge17_0⟩ := hM17; have HP17 := Kd.S_seg hH17 (of_decide_eq_true (by first | (with_reducible assumption) | assumption)) (by have h_ : (x17_1 : Int) < ((x5_1.length : Int) : Int) := of_decide_eq_true (by first | (with_reducible assumption) | assumption); first | exact h_ | (have e_ := (Kd.S_reads' HO_5.out).1; omega) | simpa using h_) (seg := [(.slice Aq129 t128.length cq129)]) (j := 0) (show 1 ≤ 1 from by decide) (x' := t128) (Kd.M_row (Kd.R_mono (Kd.R_tight rfl (Kd.R_mono (ok' := fun k_ => ((fun k_ => some k_ ≠ (.slice (some ad127) t121.length co7 : Value).ownBlock)) k_ ∧ k_ ≠ go15) (Kd.R_apart' (HO130.out) (Kd.S_typed HO_5.out) (by decide)) (fun k_ hk => ⟨hk.1.2, fun e_ => (hk.2) (by rw [e_]; rfl)⟩))) (fun _ h_ => Or.inr (h_)))) (fun _ hk => hk) (fun k_ hk_ => ((Kd.R_mono (ok' := fun k_ => ((fun k_ => some k_ ≠ (.slice (some ad127) t121.length co7 : Value).ownBlock)) k_ ∧ k_ ≠ go15) (Kd.R_apart' (HO130.out) (Kd.S_typed HO_5.out) (by decide)) (fun k_ hk => ⟨hk.1.2, fun e_ => (hk.2) (by rw [e_]; rfl)⟩))).1 k_ hk_.symm); have hx17_0 := hcc17 0 _ rfl; (try simp only [show ((Kd.slice 9 Kd.string)).sz = 1 from rfl, Nat.mul_one, Nat.add_zero] at hx17_0); have hf17_0 := hfr17 0; (try simp only [show ((Kd.slice 9 Kd.string)).sz = 1 from rfl, Nat.mul_one, Nat.add_zero] at hf17_0); clear hcl17 hcc17 hfr17 hoki17 hH17; (try clear hM17); (try simp only [show ((Kd.slice 9 Kd.string)).sz = 1 from rfl, Nat.mul_one, Nat.add_zero] at HP17)) | ((with_reducible refine gate_store (t := 26) (p := 26) rfl ?_); refine store_event (t := 26) (p := 26) (v := ?vo_w18) (w1 := (w16.setCell ⟨go15, (x17_1 : Int).toNat, none⟩ ((.slice Aq129 t128.length cq129)))) ?hg ?ho ?hn ?hr ?_; (case ho => rfl); (case hg => rfl); (case hn => rfl); (case hr => first | (go_simp; done) | (go_simp; rfl)); intro w18 hw; have hg : w16.grownBy w18 (some go15) := (by rw [hw]; exact HP17.2); have hp_ : Kd.S (Kd.slice 9 Kd.string) 26 w18 w.heap.size (fun k_ => some k_ ≠ (.slice (some ad127) t121.length co7 : Value).ownBlock) (.slice (some ⟨go15, 0, none⟩) x5_1.length co15) y131 := (by rw [hw, Ny131.out]; exact HP17.1); clear HP17; have n0_ := Aside0.mk (hp_); have n1_ := Aside0.mk (Kd.R_over' (v := (.slice (some ⟨go15, 0, none⟩) x5_1.length co15)) (by (with_reducible repeat (first | apply Kd.R_alloc | apply Kd.R_drewN | apply Kd.R_drew)); exact HO_15.out) (Kd.S_typed HO_5.out) (by decide) hg); have n2_ := Aside0.mk ((by rw [hw]; exact below_set (HB.out) GB15.out : Below w.heap.size w w18)); clear HO_5; clear HO_15; clear HB; clear HO130; have HO_5 := n0_; have HO_15 := n1_; have HB := n2_; clear n0_ n1_ n2_; clear hg hw hp_))
                  go_roundg k1
                  case measure => have := HK1.out; omega
                  case rel => exact ⟨(y131), (wrap64 (x17_1 + 1)), (by first | rfl | (simp; done) | (simp [*]; done)), H', ⟨by have := HK1.out; omega⟩, ⟨by (with_reducible repeat (first | apply Kd.S_alloc | apply Kd.S_drewN | apply Kd.S_drew)); exact HO_5.out⟩, ⟨by (with_reducible repeat (first | apply Kd.R_alloc | apply Kd.R_drewN | apply Kd.R_drew)); exact Kd.R_mono HO_15.out (fun _ hk => trivial)⟩, ⟨by repeat (first | (with_reducible first | exact HB.out | apply below_alloc | apply pw_below_drewN | apply below_drew1) | exact HB.out)⟩⟩
                · rw [if_neg c14] at H
                  exact absurd H (by simp)
              · rw [if_neg c12] at H
                exact absurd H (by simp)
            · rw [if_neg c11] at H
              exact absurd H (by simp)
          · rw [if_neg c10] at H
            have c10b0 : decide (x17_1 < (t121.length : Int)) = false := decide_eq_false c10
            clear c10
            obtain rfl := Option.some.inj H
            go_wp2
            go_ret
            exact ⟨_, by first | rfl | (simp [errW_none, errW_some] <;> rfl) | (simp [*, errW_none, errW_some] <;> rfl), by (with_reducible repeat (first | apply Kd.S_alloc | apply Kd.S_drewN | apply Kd.S_drew)); exact Kd.S_mono HO_5.out (fun _ hk => trivial), by repeat (first | (with_reducible first | exact HB.out | apply below_alloc | apply pw_below_drewN | apply below_drew1) | exact HB.out)⟩
    · rw [if_neg c4] at H
      exact absurd H (by simp)
  · rw [if_neg c3] at H
    exact absurd H (by simp)

end Go.Proofs.Ythecfligfhpccaa.P
