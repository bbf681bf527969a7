-- PRINTED by print.py (a twelfth state) out of the translation. Not trusted: Lean checks it.
import Derived.Test.YthecfligfhpccaaP0
namespace Go.Proofs.Ythecfligfhpccaa.P
open Go.RowKit Go.Proofs.YthecfligfhpccaaW.PrintWords Go.Proofs.YthecfligfhpccaaW.PrintLast Go.Proofs.YthecfligfhpccaaW.PrintMore
attribute [local go_sem] max2_int min2_int max_two min_two max_three min_three max_four min_four   -- for this text's walks alone
set_option linter.unusedVariables false
set_option linter.unusedSimpArgs false

theorem lenRow_20 {α : Type} {q : α → List Value → Prop} {z : Nat} {w : World} {A : Option Addr} {m n : Nat} {xs : List α} (h : m = n) (hc : ReadsRow q z w A m xs) : ReadsRow q z w A n xs := by subst h; exact hc
/-! ### laws_inserted: function 20 -/
def laws_inserted.l0 : Nat → List ByteArray → ByteArray → Int → Option (List ByteArray)
  | 0, _, _, _ => none
  | k + 1, x0, x1, x5 => if x5 < (x0.length : Int) then (if 0 ≤ x5 then (if (Op.bytesLess ((rdOf ByteArray.empty x0 x5).toList) x1.toList) = true then (laws_inserted.l0 k x0 x1 (wrap64 (x5 + 1))) else ((some (([] : List ByteArray) : List ByteArray)).bind fun y129 => (if x5 ≤ (x0.length : Int) then (if y129.length + (x0.take (x5 : Int).toNat).length < 8796093022208 then ((some (y129 ++ (x0.take (x5 : Int).toNat) : List ByteArray)).bind fun y133 => ((some (([x1] : List ByteArray) : List ByteArray)).bind fun y136 => (if y133.length + y136.length < 8796093022208 then ((some (y133 ++ y136 : List ByteArray)).bind fun y139 => (if y139.length + (x0.drop (x5 : Int).toNat).length < 8796093022208 then (some (y139 ++ (x0.drop (x5 : Int).toNat))) else (none))) else (none)))) else (none)) else (none)))) else (none)) else ((some (([] : List ByteArray) : List ByteArray)).bind fun y146 => (if 0 ≤ x5 then (if x5 ≤ (x0.length : Int) then (if y146.length + (x0.take (x5 : Int).toNat).length < 8796093022208 then ((some (y146 ++ (x0.take (x5 : Int).toNat) : List ByteArray)).bind fun y150 => ((some (([x1] : List ByteArray) : List ByteArray)).bind fun y153 => (if y150.length + y153.length < 8796093022208 then ((some (y150 ++ y153 : List ByteArray)).bind fun y156 => (if y156.length + (x0.drop (x5 : Int).toNat).length < 8796093022208 then (some (y156 ++ (x0.drop (x5 : Int).toNat))) else (none))) else (none)))) else (none)) else (none)) else (none)))
def laws_inserted.f (k : Nat) (l0 : List ByteArray) (a1 : ByteArray) : Option (List ByteArray) := laws_inserted.l0 k l0 a1 0
theorem laws_inserted.mono_l : ∀ k, (∀ y0 y1 y2, LeO (laws_inserted.l0 k y0 y1 y2) (laws_inserted.l0 (k + 1) y0 y1 y2))
  | 0 => fun _ _ _ r h => by simp [laws_inserted.l0] at h
  | k + 1 => by
    have ih0 := laws_inserted.mono_l k
    · intro y0 y1 y2
      unfold laws_inserted.l0
      repeat' first
      | (with_reducible exact ih0 _ _ _)
      | (with_reducible exact LeO.refl _)
      | (with_reducible exact LeO.none _)
      | (with_reducible refine LeO.ite ?_ ?_)
      | (with_reducible refine LeO.bind ?_ (fun _ => ?_))
      | exact ih0 _ _ _
      | exact LeO.none _
      | refine LeO.ite ?_ ?_
      | refine LeO.bind ?_ (fun _ => ?_)
theorem laws_inserted.mono : ∀ a0 a1 k, LeO (laws_inserted.f k a0 a1) (laws_inserted.f (k + 1) a0 a1) := by
  intro a0 a1 k
  have ih0 := laws_inserted.mono_l k
  unfold laws_inserted.f
  repeat' first
      | (with_reducible exact ih0 _ _ _)
      | (with_reducible exact LeO.refl _)
      | (with_reducible exact LeO.none _)
      | (with_reducible refine LeO.ite ?_ ?_)
      | (with_reducible refine LeO.bind ?_ (fun _ => ?_))
      | exact ih0 _ _ _
      | exact LeO.none _
      | refine LeO.ite ?_ ?_
      | refine LeO.bind ?_ (fun _ => ?_)
def laws_inserted.T4 : Bool × List (List Nat × List Nat) := (true, [([], []), ([], []), ([], []), ([1, 2], [1, 2]), ([0, 3], [0, 3]), ([], []), ([5], [5]), ([4, 6, 4], [4, 6]), ([], []), ([], []), ([8, 9], [8, 9]), ([7, 10, 7], [7, 10]), ([11, 11, 0, 1, 2, 3, 4, 5, 6, 7, 8, 9, 10, 11], [11])])
def laws_inserted.B4 : List Nat := [0, 0, 0, 6, 15, 0, 32, 127, 0, 0, 768, 2047, 4095]
theorem laws_inserted.tab4 : rtab .any (opsOf Try.f20 4) = laws_inserted.T4 := by kernel_rfl
theorem laws_inserted.bits4 : waitsOk laws_inserted.T4.2 laws_inserted.B4 = true := by kernel_rfl
set_option maxHeartbeats 8000000 in
set_option maxRecDepth 100000 in
theorem laws_inserted.calls (k : Nat) (A0 : Option Addr) (c0 : Nat) (l0 : List ByteArray) (a1 : ByteArray) (r : List ByteArray) (w : World) (hr0 : Kd.C Kd.string w A0 l0.length l0) (hc0 : l0.length ≤ c0) (h : laws_inserted.f k l0 a1 = some r) :
    Calls Try.prog 20 #[.slice A0 l0.length c0, .string a1] w fun e w' => ∃ v0_ : Value, e = .returned (v0_) ∧ Kd.R Kd.string 9 w' w.heap.size (fun _ => True) v0_ r ∧ Below w.heap.size w w' := by
  have HR0 := Aside0.mk hr0
  have HC0 := Aside0.mk hc0
  clear hr0 hc0
  have HB := Aside0.mk (Below.refl w.heap.size w)
  have H : (laws_inserted.l0 k l0 a1 0) = some r := h
  clear h
  have H' := Aside0.mk H
  clear H
  go_enter Try.func20, Try.ntmps20
  go_wp2
  go_loopg [5] k (fun kq v5 w' => ∃ (x5_1 : Int), v5 = .int .i64 x5_1 ∧ Aside0 (laws_inserted.l0 kq l0 a1 x5_1 = some r) ∧ Aside0 (kq ≤ k) ∧ Aside0 (Below w.heap.size w w'))
  case atStart => exact ⟨(0), (by first | rfl | (simp; done) | (simp [*]; done)), H', ⟨Nat.le_refl _⟩, ⟨by repeat (first | (with_reducible first | exact HB.out | apply below_alloc | apply pw_below_drewN | apply below_drew1) | exact HB.out)⟩⟩
  case round =>
    clear H'
    try clear c2
    try clear p2
    obtain ⟨x5_1, rfl, HA, HK1, HB⟩ := hrel
    cases gk with
    | zero => exact absurd HA.out (by simp [laws_inserted.l0])
    | succ k1 =>
      have H := HA.out
      clear HA
      simp only [laws_inserted.l0] at H
      by_cases c3 : x5_1 < (l0.length : Int)
      · rw [if_pos c3] at H
        have c3b0 : decide (x5_1 < (l0.length : Int)) = true := decide_eq_true c3
        clear c3
        by_cases c4 : 0 ≤ x5_1
        · rw [if_pos c4] at H
          have c4b0 : decide (0 ≤ x5_1) = true := decide_eq_true c4
          clear c4
          by_cases c5 : (Op.bytesLess ((rdOf ByteArray.empty l0 x5_1).toList) a1.toList) = true
          · rw [if_pos c5] at H
            have c5b0 : (Op.bytesLess ((rdOf ByteArray.empty l0 x5_1).toList) a1.toList) = true := c5
            clear c5
            have H' := Aside0.mk H
            clear H
            have p128 : 0 ≤ (x5_1 : Int) := of_decide_eq_true (by first | (with_reducible assumption) | assumption)
            have q128 : x5_1 < (l0.length : Int) := of_decide_eq_true (by first | (with_reducible assumption) | assumption)
            obtain ⟨ad128, e128, hx128_0⟩ := Kd.at_string HR0.out x5_1 p128 q128
            cases e128
            first | (replace hx128_0 := (HB.out.cell (World.block_lt_of_cell? w _ hx128_0)).trans hx128_0) | skip
            replace p128 := eq_true p128
            replace q128 := eq_true q128
            go_wp2
            go_roundg k1
            case measure => have := HK1.out; omega
            case rel => exact ⟨(wrap64 (x5_1 + 1)), (by first | rfl | (simp; done) | (simp [*]; done)), H', ⟨by have := HK1.out; omega⟩, ⟨by repeat (first | (with_reducible first | exact HB.out | apply below_alloc | apply pw_below_drewN | apply below_drew1) | exact HB.out)⟩⟩
          · rw [if_neg c5] at H
            have c5b0 : (Op.bytesLess ((rdOf ByteArray.empty l0 x5_1).toList) a1.toList) = false := by simpa using c5
            clear c5
            obtain ⟨y129, hy129⟩ : ∃ y_ : List ByteArray, y_ = (([] : List ByteArray)) := ⟨_, rfl⟩
            replace H : (if x5_1 ≤ (l0.length : Int) then (if y129.length + (l0.take (x5_1 : Int).toNat).length < 8796093022208 then ((some (y129 ++ (l0.take (x5_1 : Int).toNat) : List ByteArray)).bind fun y133 => ((some (([a1] : List ByteArray) : List ByteArray)).bind fun y136 => (if y133.length + y136.length < 8796093022208 then ((some (y133 ++ y136 : List ByteArray)).bind fun y139 => (if y139.length + (l0.drop (x5_1 : Int).toNat).length < 8796093022208 then (some (y139 ++ (l0.drop (x5_1 : Int).toNat))) else (none))) else (none)))) else (none)) else (none)) = some r := by first | (rw [hy129]; with_reducible exact H) | (have H2_ := (Option.bind_some _ _).symm.trans H; rw [hy129]; with_reducible exact H2_) | (have H2_ := (Option.bind_some _ _).symm.trans H; with_reducible exact H2_) | with_reducible exact H | (rw [hy129]; exact H) | exact H
            have Ny129 := Aside0.mk hy129
            clear hy129
            have c6b0 := eq_true (of_decide_eq_true (by first | (with_reducible assumption) | assumption) : 0 ≤ x5_1)
            by_cases c7 : x5_1 ≤ (l0.length : Int)
            · rw [if_pos c7] at H
              have c7b0 := eq_true c7
              have c7b1 : decide (x5_1 ≤ (l0.length : Int)) = true := decide_eq_true c7
              clear c7
              by_cases c8 : y129.length + (l0.take (x5_1 : Int).toNat).length < 8796093022208
              · rw [if_pos c8] at H
                have LMc8 := Aside0.mk c8
                clear c8
                obtain ⟨y133, hy133⟩ : ∃ y_ : List ByteArray, y_ = (y129 ++ (l0.take (x5_1 : Int).toNat)) := ⟨_, rfl⟩
                replace H : ((some (([a1] : List ByteArray) : List ByteArray)).bind fun y136 => (if y133.length + y136.length < 8796093022208 then ((some (y133 ++ y136 : List ByteArray)).bind fun y139 => (if y139.length + (l0.drop (x5_1 : Int).toNat).length < 8796093022208 then (some (y139 ++ (l0.drop (x5_1 : Int).toNat))) else (none))) else (none))) = some r := by first | (rw [hy133]; with_reducible exact H) | (have H2_ := (Option.bind_some _ _).symm.trans H; rw [hy133]; with_reducible exact H2_) | (have H2_ := (Option.bind_some _ _).symm.trans H; with_reducible exact H2_) | with_reducible exact H | (rw [hy133]; exact H) | exact H
                have Ny133 := Aside0.mk hy133
                clear hy133
                obtain ⟨y136, hy136⟩ : ∃ y_ : List ByteArray, y_ = (([a1] : List ByteArray)) := ⟨_, rfl⟩
                replace H : (if y133.length + y136.length < 8796093022208 then ((some (y133 ++ y136 : List ByteArray)).bind fun y139 => (if y139.length + (l0.drop (x5_1 : Int).toNat).length < 8796093022208 then (some (y139 ++ (l0.drop (x5_1 : Int).toNat))) else (none))) else (none)) = some r := by first | (rw [hy136]; with_reducible exact H) | (have H2_ := (Option.bind_some _ _).symm.trans H; rw [hy136]; with_reducible exact H2_) | (have H2_ := (Option.bind_some _ _).symm.trans H; with_reducible exact H2_) | with_reducible exact H | (rw [hy136]; exact H) | exact H
                have Ny136 := Aside0.mk hy136
                clear hy136
                by_cases c9 : y133.length + y136.length < 8796093022208
                · rw [if_pos c9] at H
                  have LMc9 := Aside0.mk c9
                  clear c9
                  obtain ⟨y139, hy139⟩ : ∃ y_ : List ByteArray, y_ = (y133 ++ y136) := ⟨_, rfl⟩
                  replace H : (if y139.length + (l0.drop (x5_1 : Int).toNat).length < 8796093022208 then (some (y139 ++ (l0.drop (x5_1 : Int).toNat))) else (none)) = some r := by first | (rw [hy139]; with_reducible exact H) | (have H2_ := (Option.bind_some _ _).symm.trans H; rw [hy139]; with_reducible exact H2_) | (have H2_ := (Option.bind_some _ _).symm.trans H; with_reducible exact H2_) | with_reducible exact H | (rw [hy139]; exact H) | exact H
                  have Ny139 := Aside0.mk hy139
                  clear hy139
                  have c10b0 := eq_true (of_decide_eq_true (by first | (with_reducible assumption) | assumption) : 0 ≤ x5_1)
                  have c11b0 := eq_true (of_decide_eq_true (by first | (with_reducible assumption) | assumption) : x5_1 ≤ (l0.length : Int))
                  by_cases c12 : y139.length + (l0.drop (x5_1 : Int).toNat).length < 8796093022208
                  · rw [if_pos c12] at H
                    have LMc12 := Aside0.mk c12
                    clear c12
                    obtain ⟨y143, hy143⟩ : ∃ y_ : List ByteArray, y_ = (y139 ++ (l0.drop (x5_1 : Int).toNat)) := ⟨_, rfl⟩
                    replace H : (some y143) = some r := by first | (rw [hy143]; with_reducible exact H) | (have H2_ := (Option.bind_some _ _).symm.trans H; rw [hy143]; with_reducible exact H2_) | (have H2_ := (Option.bind_some _ _).symm.trans H; with_reducible exact H2_) | with_reducible exact H | (rw [hy143]; exact H) | exact H
                    have Ny143 := Aside0.mk hy143
                    clear hy143
                    obtain rfl := Option.some.inj H
                    have p128 : 0 ≤ (x5_1 : Int) := of_decide_eq_true (by first | (with_reducible assumption) | assumption)
                    have q128 : x5_1 < (l0.length : Int) := of_decide_eq_true (by first | (with_reducible assumption) | assumption)
                    obtain ⟨ad128, e128, hx128_0⟩ := Kd.at_string HR0.out x5_1 p128 q128
                    cases e128
                    first | (replace hx128_0 := (HB.out.cell (World.block_lt_of_cell? w _ hx128_0)).trans hx128_0) | skip
                    replace p128 := eq_true p128
                    replace q128 := eq_true q128
                    try go_wp2
                    have n0_ := Aside0.mk (below_drew1 HB.out)
                    clear HB
                    have HB := n0_
                    clear n0_
                    obtain ⟨i014, hi014, _, hsz14, _⟩ := info_parts info9
                    obtain ⟨hcut14, hA14, hC14⟩ := print_take_of (P := Try.prog) Value.string (⟨#[]⟩ : ByteArray) 26 9 .i64 Try.underlying26 hi014 hsz14 (some ad128) c0 l0 x5_1 (of_decide_eq_true (by first | (with_reducible assumption) | assumption)) (of_decide_eq_true (by first | (with_reducible assumption) | assumption)) HC0.out
                    have HR132 := Aside0.mk (Kd.C_of_reads (h1 := fun _ => rfl) (hA14 _ (Kd.reads_of_C HR0.out)))
                    have HC132 := Aside0.mk hC14
                    clear hA14 hC14 hi014 hsz14
                    obtain ⟨i015, hi015, _, hsz15, _⟩ := info_parts info9
                    obtain ⟨A15, hcut15, hA15, hC15⟩ := print_drop_of (P := Try.prog) Value.string (⟨#[]⟩ : ByteArray) 26 9 .i64 Try.underlying26 hi015 hsz15 (some ad128) c0 l0 x5_1 (of_decide_eq_true (by first | (with_reducible assumption) | assumption)) (of_decide_eq_true (by first | (with_reducible assumption) | assumption)) HC0.out
                    have HR142 := Aside0.mk (Kd.C_of_reads (h1 := fun _ => rfl) (hA15 _ (Kd.reads_of_C HR0.out)))
                    have HC142 := Aside0.mk hC15
                    clear hA15 hC15 hi015 hsz15
                    refine start_ (n := 13) (S := fun w' => True) (ds := []) #[false, false, false, false, false, false, false, false, false, false, false, false, false] (by kernel_rfl) rfl rfl trivial (fun hHeld => ?_); refine with_tabW laws_inserted.tab4 laws_inserted.bits4 (fun HT_ HW_ => ?_)
                    generalize wr.drew = w13 at HB HR132 HR142 hHeld ⊢
                    refine pure_ (i := 1) (N := some 21) (v := ?_) (a' := ?_) #[false, true, false, false, false, false, false, false, false, false, false, false, false] rfl rfl (any_of HT_.out (by kernel_rfl)) (fun _ _ _ h => h) (Or.inl ⟨by rfl, ?_⟩) ?_ ?_
                    rotate_left
                    · intro w'
                      go_simp
                      with_reducible rfl
                    rotate_left
                    · simp only [Act.put, List.setIfInBounds_toArray, List.set_cons_zero, List.set_cons_succ, i64_w, i32_w]
                      rfl
                    refine pure_ (i := 2) (N := some 22) (v := ?_) (a' := ?_) #[false, true, true, false, false, false, false, false, false, false, false, false, false] rfl rfl (any_of HT_.out (by kernel_rfl)) (fun _ _ _ h => h) (Or.inl ⟨by rfl, ?_⟩) ?_ ?_
                    rotate_left
                    · intro w'
                      go_simp
                      with_reducible rfl
                    rotate_left
                    · simp only [Act.put, List.setIfInBounds_toArray, List.set_cons_zero, List.set_cons_succ, i64_w, i32_w]
                      rfl
                    refine pure_ (i := 3) (N := some 23) (v := ?_) (a' := ?_) #[false, true, true, true, false, false, false, false, false, false, false, false, false] rfl rfl (any_of HT_.out (by kernel_rfl)) (fun _ _ _ h => h) (Or.inl ⟨by rfl, ?_⟩) ?_ ?_
                    rotate_left
                    · intro w'
                      go_simp
                      with_reducible rfl
                    rotate_left
                    · simp only [Act.put, List.setIfInBounds_toArray, List.set_cons_zero, List.set_cons_succ, i64_w, i32_w]
                      rfl
                    refine pure_ (i := 5) (N := some 25) (v := ?_) (a' := ?_) #[false, true, true, true, false, true, false, false, false, false, false, false, false] rfl rfl (any_of HT_.out (by kernel_rfl)) (fun _ _ _ h => h) (Or.inl ⟨by rfl, ?_⟩) ?_ ?_
                    rotate_left
                    · intro w'
                      go_simp
                      with_reducible rfl
                    rotate_left
                    · simp only [Act.put, List.setIfInBounds_toArray, List.set_cons_zero, List.set_cons_succ, i64_w, i32_w]
                      rfl
                    refine pure_ (i := 8) (N := some 28) (v := ?_) (a' := ?_) #[false, true, true, true, false, true, false, false, true, false, false, false, false] rfl rfl (any_of HT_.out (by kernel_rfl)) (fun _ _ _ h => h) (Or.inl ⟨by rfl, ?_⟩) ?_ ?_
                    rotate_left
                    · intro w'
                      go_simp
                      with_reducible rfl
                    rotate_left
                    · simp only [Act.put, List.setIfInBounds_toArray, List.set_cons_zero, List.set_cons_succ, i64_w, i32_w]
                      rfl
                    refine pure_ (i := 9) (N := some 29) (v := ?_) (a' := ?_) #[false, true, true, true, false, true, false, false, true, true, false, false, false] rfl rfl (any_of HT_.out (by kernel_rfl)) (fun _ _ _ h => h) (Or.inl ⟨by rfl, ?_⟩) ?_ ?_
                    rotate_left
                    · intro w'
                      go_simp
                      with_reducible rfl
                    rotate_left
                    · simp only [Act.put, List.setIfInBounds_toArray, List.set_cons_zero, List.set_cons_succ, i64_w, i32_w]
                      rfl
                    refine pure_ (i := 10) (N := some 30) (v := ?_) (a' := ?_) #[false, true, true, true, false, true, false, false, true, true, true, false, false] rfl rfl (any_of HT_.out (by kernel_rfl)) (fun _ _ _ h => h) (Or.inl ⟨by rfl, ?_⟩) ?_ ?_
                    rotate_left
                    · intro w'
                      go_simp
                      with_reducible rfl
                    rotate_left
                    · simp only [Act.put, List.setIfInBounds_toArray, List.set_cons_zero, List.set_cons_succ, i64_w, i32_w]
                      rfl
                    refine join_ (σ := Value × Value × Value) 3 #[true, true, true, true, true, true, true, false, true, true, true, false, false] (fun s_ => [(20, s_.1), (24, s_.2.1), (26, s_.2.2)]) (fun s_ w' => (Kd.R Kd.string 9 w' w.heap.size (fun k_ => some k_ ≠ (s_.2.2 : Value).ownBlock) s_.2.1 y133) ∧ (Kd.R Kd.string 9 w' w.heap.size (fun k_ => some k_ ≠ (s_.2.1 : Value).ownBlock) s_.2.2 y136) ∧ (Below w.heap.size w w')) ?_ ?_
                    rotate_left
                    · intro hCont
                      refine two_ (i := 0) (j := 6) (Ni := some 20) (Nj := some 26) #[true, true, true, true, false, true, false, false, true, true, true, false, false] #[false, true, true, true, false, true, true, false, true, true, true, false, false] rfl rfl rfl rfl (two_of HT_.out (by kernel_rfl)) (by decide) (by decide) (fun K hK => ?_) (fun K hK => ?_)
                      · skip
                        refine Kd.R_lit_step Kd.string _ 9 ?hg (N := 20) ?hd (xs := ([] : List ByteArray)) (inner := []) (ok := fun _ => True) (okp := fun _ => True) ?hr ?hp (fun _ hk => hk) trivial (Below.refl _ _) (Nat.le_refl _) (by simp) ?_; (case hd => rfl); (case hg => rfl); (case hr => first | (go_simp; done) | (go_simp; rfl)); (case hp => exact (Reps.none _ _))
                        intro v130 w16 ho17 hb hg_ hnew_
                        clear hg_ hnew_
                        (first | rw [← Ny129.out] at ho17 | (simp only [Int.reduceToNat] at ho17; rw [← Ny129.out] at ho17))
                        have n0_ := Aside0.mk (Kd.R_lower ho17 (below_size (by repeat (first | (with_reducible first | exact HB.out | apply below_alloc | apply pw_below_drewN | apply below_drew1) | exact HB.out))))
                        have n1_ := Aside0.mk (below_step (by repeat (first | (with_reducible first | exact HB.out | apply below_alloc | apply pw_below_drewN | apply below_drew1) | exact HB.out)) hb)
                        clear HB
                        have HO131 := n0_
                        have HB := n1_
                        clear n0_ n1_
                        clear hb ho17
                        refine hK.out _ _ trivial (fun hHeld => ?_)
                        clear hK K
                        refine norm_ (a' := ?_) ?_ ?_
                        rotate_left
                        · show Act.put _ (some 20) _ = _
                          simp only [Act.put, List.setIfInBounds_toArray, List.set_cons_zero, List.set_cons_succ, i64_w, i32_w]
                          rfl
                        refine two_ (i := 4) (j := 6) (Ni := some 24) (Nj := some 26) #[true, true, true, true, true, true, false, false, true, true, true, false, false] #[true, true, true, true, false, true, true, false, true, true, true, false, false] rfl rfl rfl rfl (two_of HT_.out (by kernel_rfl)) (by decide) (by decide) (fun K hK => ?_) (fun K hK => ?_)
                        · skip
                          refine Kd.R_append_rows_step Kd.string (w0 := w) w.heap.size (by rfl) (.tmp 20) (.tmp 23) 26 9 (.string ⟨#[]⟩) 16 rfl Try.underlying26 info9 rfl (by decide) (by omega) v130 y129 (l0.take (x5_1 : Int).toNat) _ _ _ (fun _ => True) (fun _ => False) rfl rfl ?aO ?aR (fun _ _ h => h) (fun _ h => h.elim) ?aF ?aB ?aS ?aL ?_
                          (case aR => first | (refine lenRow_20 (show (l0.take (x5_1 : Int).toNat).length = x5_1.toNat from (by rw [List.length_take]; have h_ : (x5_1 : Int) ≤ (l0.length : Int) := of_decide_eq_true (by first | (with_reducible assumption) | assumption); omega)) ?_; repeat (first | exact (Kd.C_below HR132.out HB.out) | (with_reducible refine Kd.C_alloc ?_ _) | (with_reducible refine Kd.C_drewN ?_ _) | (with_reducible refine Kd.C_drew ?_))) | (repeat (first | exact (Kd.C_below HR132.out HB.out) | (with_reducible refine Kd.C_alloc ?_ _) | (with_reducible refine Kd.C_drewN ?_ _) | (with_reducible refine Kd.C_drew ?_))))
                          (case aB => exact (by repeat (first | (with_reducible first | exact HB.out | apply below_alloc | apply pw_below_drewN | apply below_drew1) | exact HB.out)))
                          (case aF => exact (fun _ _ => trivial))
                          (case aO => exact (by (with_reducible repeat (first | apply Kd.R_alloc | apply Kd.R_drewN | apply Kd.R_drew)); exact HO131.out))
                          (case aS => exact (below_size (by repeat (first | (with_reducible first | exact HB.out | apply below_alloc | apply pw_below_drewN | apply below_drew1) | exact HB.out))))
                          (case aL => have := LMc8.out; have hlx_ := (show (l0.take (x5_1 : Int).toNat).length = x5_1.toNat from (by rw [List.length_take]; have h_ : (x5_1 : Int) ≤ (l0.length : Int) := of_decide_eq_true (by first | (with_reducible assumption) | assumption); omega)); omega)
                          intro v134 w18 ho hb hg hat
                          rw [← Ny133.out] at ho
                          have n0_ := Aside0.mk (hb)
                          have n1_ := Aside0.mk (ho)
                          clear HB
                          clear HO131
                          have HB := n0_
                          have HO135 := n1_
                          clear n0_ n1_
                          clear ho hb hg hat
                          refine hK.out _ _ trivial (fun hHeld => ?_)
                          clear hK K
                          refine norm_ (a' := ?_) ?_ ?_
                          rotate_left
                          · show Act.put _ (some 24) _ = _
                            simp only [Act.put, List.setIfInBounds_toArray, List.set_cons_zero, List.set_cons_succ, i64_w, i32_w]
                            rfl
                          refine one_ (i := 6) (N := some 26) #[true, true, true, true, true, true, true, false, true, true, true, false, false] rfl rfl (one_of HT_.out (by kernel_rfl)) (by decide) (fun K hK => ?_)
                          refine Kd.R_lit_step Kd.string _ 9 ?hg (N := 26) ?hd (xs := ([a1] : List ByteArray)) (inner := [.string a1]) (ok := fun _ => True) (okp := fun _ => True) ?hr ?hp (fun _ hk => hk) trivial (Below.refl _ _) (Nat.le_refl _) (by simp) ?_; (case hd => rfl); (case hg => rfl); (case hr => first | (go_simp; done) | (go_simp; rfl)); (case hp => exact (Reps.one (show Kd.M Kd.string _ _ _ a1 [.string a1] from rfl) (Reps.none _ _)))
                          intro v137 w19 ho20 hb hg_ hnew_
                          clear hg_ hnew_
                          (first | rw [← Ny136.out] at ho20 | (simp only [Int.reduceToNat] at ho20; rw [← Ny136.out] at ho20))
                          have n0_ := Aside0.mk (Kd.R_elder' (by (with_reducible repeat (first | apply Kd.R_alloc | apply Kd.R_drewN | apply Kd.R_drew)); exact HO135.out) (by first | exact Kd.N_base ho20 | exact Kd.S_base ho20 | exact Kd.R_base ho20) hb)
                          have n1_ := Aside0.mk (Kd.R_lower (Kd.R_new' ho20 (Kd.R_lt (by (with_reducible repeat (first | apply Kd.R_alloc | apply Kd.R_drewN | apply Kd.R_drew)); exact HO135.out))) (below_size (by repeat (first | (with_reducible first | exact HB.out | apply below_alloc | apply pw_below_drewN | apply below_drew1) | exact HB.out))))
                          have n2_ := Aside0.mk (below_step (by repeat (first | (with_reducible first | exact HB.out | apply below_alloc | apply pw_below_drewN | apply below_drew1) | exact HB.out)) hb)
                          clear HO135
                          clear HB
                          have HO135 := n0_
                          have HO138 := n1_
                          have HB := n2_
                          clear n0_ n1_ n2_
                          clear hb ho20
                          refine hK.out _ _ trivial (fun hHeld => ?_)
                          clear hK K
                          refine norm_ (a' := ?_) ?_ ?_
                          rotate_left
                          · show Act.put _ (some 26) _ = _
                            simp only [Act.put, List.setIfInBounds_toArray, List.set_cons_zero, List.set_cons_succ, i64_w, i32_w]
                            rfl
                          exact norm_ (by simp only [putAll, Act.put, List.setIfInBounds_toArray, List.set_cons_zero, List.set_cons_succ]) (hCont (v130, v134, v137) _ ⟨(by (with_reducible repeat (first | apply Kd.R_alloc | apply Kd.R_drewN | apply Kd.R_drew)); exact Kd.R_mono HO135.out (fun _ hk => hk.2)), (by (with_reducible repeat (first | apply Kd.R_alloc | apply Kd.R_drewN | apply Kd.R_drew)); exact Kd.R_mono HO138.out (fun _ hk => hk.2)), (by repeat (first | (with_reducible first | exact HB.out | apply below_alloc | apply pw_below_drewN | apply below_drew1) | exact HB.out))⟩)
                        · skip
                          refine Kd.R_lit_step Kd.string _ 9 ?hg (N := 26) ?hd (xs := ([a1] : List ByteArray)) (inner := [.string a1]) (ok := fun _ => True) (okp := fun _ => True) ?hr ?hp (fun _ hk => hk) trivial (Below.refl _ _) (Nat.le_refl _) (by simp) ?_; (case hd => rfl); (case hg => rfl); (case hr => first | (go_simp; done) | (go_simp; rfl)); (case hp => exact (Reps.one (show Kd.M Kd.string _ _ _ a1 [.string a1] from rfl) (Reps.none _ _)))
                          intro v137 w18 ho19 hb hg_ hnew_
                          clear hg_ hnew_
                          (first | rw [← Ny136.out] at ho19 | (simp only [Int.reduceToNat] at ho19; rw [← Ny136.out] at ho19))
                          have n0_ := Aside0.mk (Kd.R_elder' (by (with_reducible repeat (first | apply Kd.R_alloc | apply Kd.R_drewN | apply Kd.R_drew)); exact HO131.out) (by first | exact Kd.N_base ho19 | exact Kd.S_base ho19 | exact Kd.R_base ho19) hb)
                          have n1_ := Aside0.mk (Kd.R_lower (Kd.R_new' ho19 (Kd.R_lt (by (with_reducible repeat (first | apply Kd.R_alloc | apply Kd.R_drewN | apply Kd.R_drew)); exact HO131.out))) (below_size (by repeat (first | (with_reducible first | exact HB.out | apply below_alloc | apply pw_below_drewN | apply below_drew1) | exact HB.out))))
                          have n2_ := Aside0.mk (below_step (by repeat (first | (with_reducible first | exact HB.out | apply below_alloc | apply pw_below_drewN | apply below_drew1) | exact HB.out)) hb)
                          clear HO131
                          clear HB
                          have HO131 := n0_
                          have HO138 := n1_
                          have HB := n2_
                          clear n0_ n1_ n2_
                          clear hb ho19
                          refine hK.out _ _ trivial (fun hHeld => ?_)
                          clear hK K
                          refine norm_ (a' := ?_) ?_ ?_
                          rotate_left
                          · show Act.put _ (some 26) _ = _
                            simp only [Act.put, List.setIfInBounds_toArray, List.set_cons_zero, List.set_cons_succ, i64_w, i32_w]
                            rfl
                          refine one_ (i := 4) (N := some 24) #[true, true, true, true, true, true, true, false, true, true, true, false, false] rfl rfl (one_of HT_.out (by kernel_rfl)) (by decide) (fun K hK => ?_)
                          refine Kd.R_append_rows_step Kd.string (w0 := w) w.heap.size (by rfl) (.tmp 20) (.tmp 23) 26 9 (.string ⟨#[]⟩) 16 rfl Try.underlying26 info9 rfl (by decide) (by omega) v130 y129 (l0.take (x5_1 : Int).toNat) _ _ _ (fun k_ => some k_ ≠ (v137 : Value).ownBlock) (fun _ => False) rfl rfl ?aO ?aR (fun _ _ h => h) (fun _ h => h.elim) ?aF ?aB ?aS ?aL ?_
                          (case aR => first | (refine lenRow_20 (show (l0.take (x5_1 : Int).toNat).length = x5_1.toNat from (by rw [List.length_take]; have h_ : (x5_1 : Int) ≤ (l0.length : Int) := of_decide_eq_true (by first | (with_reducible assumption) | assumption); omega)) ?_; repeat (first | exact (Kd.C_below HR132.out HB.out) | (with_reducible refine Kd.C_alloc ?_ _) | (with_reducible refine Kd.C_drewN ?_ _) | (with_reducible refine Kd.C_drew ?_))) | (repeat (first | exact (Kd.C_below HR132.out HB.out) | (with_reducible refine Kd.C_alloc ?_ _) | (with_reducible refine Kd.C_drewN ?_ _) | (with_reducible refine Kd.C_drew ?_))))
                          (case aB => exact (by repeat (first | (with_reducible first | exact HB.out | apply below_alloc | apply pw_below_drewN | apply below_drew1) | exact HB.out)))
                          (case aF => exact (fun k_ hk => Kd.fresh' (Kd.R_lt (by (with_reducible repeat (first | apply Kd.R_alloc | apply Kd.R_drewN | apply Kd.R_drew)); exact HO138.out)) k_ hk))
                          (case aO => exact (by (with_reducible repeat (first | apply Kd.R_alloc | apply Kd.R_drewN | apply Kd.R_drew)); exact Kd.R_mono HO131.out (fun _ hk => hk.2)))
                          (case aS => exact (below_size (by repeat (first | (with_reducible first | exact HB.out | apply below_alloc | apply pw_below_drewN | apply below_drew1) | exact HB.out))))
                          (case aL => have := LMc8.out; have hlx_ := (show (l0.take (x5_1 : Int).toNat).length = x5_1.toNat from (by rw [List.length_take]; have h_ : (x5_1 : Int) ≤ (l0.length : Int) := of_decide_eq_true (by first | (with_reducible assumption) | assumption); omega)); omega)
                          intro v134 w20 ho hb hg hat
                          rw [← Ny133.out] at ho
                          have n0_ := Aside0.mk (Kd.R_after (ok := (fun _ => True)) (by (with_reducible repeat (first | apply Kd.R_alloc | apply Kd.R_drewN | apply Kd.R_drew)); exact HO138.out) hg hat)
                          have n1_ := Aside0.mk (hb)
                          have n2_ := Aside0.mk (ho)
                          clear HO138
                          clear HB
                          clear HO131
                          have HO138 := n0_
                          have HB := n1_
                          have HO135 := n2_
                          clear n0_ n1_ n2_
                          clear ho hb hg hat
                          refine hK.out _ _ trivial (fun hHeld => ?_)
                          clear hK K
                          refine norm_ (a' := ?_) ?_ ?_
                          rotate_left
                          · show Act.put _ (some 24) _ = _
                            simp only [Act.put, List.setIfInBounds_toArray, List.set_cons_zero, List.set_cons_succ, i64_w, i32_w]
                            rfl
                          exact norm_ (by simp only [putAll, Act.put, List.setIfInBounds_toArray, List.set_cons_zero, List.set_cons_succ]) (hCont (v130, v134, v137) _ ⟨(by (with_reducible repeat (first | apply Kd.R_alloc | apply Kd.R_drewN | apply Kd.R_drew)); exact HO135.out), (by (with_reducible repeat (first | apply Kd.R_alloc | apply Kd.R_drewN | apply Kd.R_drew)); exact Kd.R_mono HO138.out (fun _ hk => hk.2)), (by repeat (first | (with_reducible first | exact HB.out | apply below_alloc | apply pw_below_drewN | apply below_drew1) | exact HB.out))⟩)
                      · skip
                        refine Kd.R_lit_step Kd.string _ 9 ?hg (N := 26) ?hd (xs := ([a1] : List ByteArray)) (inner := [.string a1]) (ok := fun _ => True) (okp := fun _ => True) ?hr ?hp (fun _ hk => hk) trivial (Below.refl _ _) (Nat.le_refl _) (by simp) ?_; (case hd => rfl); (case hg => rfl); (case hr => first | (go_simp; done) | (go_simp; rfl)); (case hp => exact (Reps.one (show Kd.M Kd.string _ _ _ a1 [.string a1] from rfl) (Reps.none _ _)))
                        intro v137 w16 ho17 hb hg_ hnew_
                        clear hg_ hnew_
                        (first | rw [← Ny136.out] at ho17 | (simp only [Int.reduceToNat] at ho17; rw [← Ny136.out] at ho17))
                        have n0_ := Aside0.mk (Kd.R_lower ho17 (below_size (by repeat (first | (with_reducible first | exact HB.out | apply below_alloc | apply pw_below_drewN | apply below_drew1) | exact HB.out))))
                        have n1_ := Aside0.mk (below_step (by repeat (first | (with_reducible first | exact HB.out | apply below_alloc | apply pw_below_drewN | apply below_drew1) | exact HB.out)) hb)
                        clear HB
                        have HO138 := n0_
                        have HB := n1_
                        clear n0_ n1_
                        clear hb ho17
                        refine hK.out _ _ trivial (fun hHeld => ?_)
                        clear hK K
                        refine norm_ (a' := ?_) ?_ ?_
                        rotate_left
                        · show Act.put _ (some 26) _ = _
                          simp only [Act.put, List.setIfInBounds_toArray, List.set_cons_zero, List.set_cons_succ, i64_w, i32_w]
                          rfl
                        refine one_ (i := 0) (N := some 20) #[true, true, true, true, false, true, true, false, true, true, true, false, false] rfl rfl (one_of HT_.out (by kernel_rfl)) (by decide) (fun K hK => ?_)
                        refine Kd.R_lit_step Kd.string _ 9 ?hg (N := 20) ?hd (xs := ([] : List ByteArray)) (inner := []) (ok := fun _ => True) (okp := fun _ => True) ?hr ?hp (fun _ hk => hk) trivial (Below.refl _ _) (Nat.le_refl _) (by simp) ?_; (case hd => rfl); (case hg => rfl); (case hr => first | (go_simp; done) | (go_simp; rfl)); (case hp => exact (Reps.none _ _))
                        intro v130 w18 ho19 hb hg_ hnew_
                        clear hg_ hnew_
                        (first | rw [← Ny129.out] at ho19 | (simp only [Int.reduceToNat] at ho19; rw [← Ny129.out] at ho19))
                        have n0_ := Aside0.mk (Kd.R_elder' (by (with_reducible repeat (first | apply Kd.R_alloc | apply Kd.R_drewN | apply Kd.R_drew)); exact HO138.out) (by first | exact Kd.N_base ho19 | exact Kd.S_base ho19 | exact Kd.R_base ho19) hb)
                        have n1_ := Aside0.mk (Kd.R_lower (Kd.R_new' ho19 (Kd.R_lt (by (with_reducible repeat (first | apply Kd.R_alloc | apply Kd.R_drewN | apply Kd.R_drew)); exact HO138.out))) (below_size (by repeat (first | (with_reducible first | exact HB.out | apply below_alloc | apply pw_below_drewN | apply below_drew1) | exact HB.out))))
                        have n2_ := Aside0.mk (below_step (by repeat (first | (with_reducible first | exact HB.out | apply below_alloc | apply pw_below_drewN | apply below_drew1) | exact HB.out)) hb)
                        clear HO138
                        clear HB
                        have HO138 := n0_
                        have HO131 := n1_
                        have HB := n2_
                        clear n0_ n1_ n2_
                        clear hb ho19
                        refine hK.out _ _ trivial (fun hHeld => ?_)
                        clear hK K
                        refine norm_ (a' := ?_) ?_ ?_
                        rotate_left
                        · show Act.put _ (some 20) _ = _
                          simp only [Act.put, List.setIfInBounds_toArray, List.set_cons_zero, List.set_cons_succ, i64_w, i32_w]
                          rfl
                        refine one_ (i := 4) (N := some 24) #[true, true, true, true, true, true, true, false, true, true, true, false, false] rfl rfl (one_of HT_.out (by kernel_rfl)) (by decide) (fun K hK => ?_)
                        refine Kd.R_append_rows_step Kd.string (w0 := w) w.heap.size (by rfl) (.tmp 20) (.tmp 23) 26 9 (.string ⟨#[]⟩) 16 rfl Try.underlying26 info9 rfl (by decide) (by omega) v130 y129 (l0.take (x5_1 : Int).toNat) _ _ _ (fun k_ => some k_ ≠ (v137 : Value).ownBlock) (fun _ => False) rfl rfl ?aO ?aR (fun _ _ h => h) (fun _ h => h.elim) ?aF ?aB ?aS ?aL ?_
                        (case aR => first | (refine lenRow_20 (show (l0.take (x5_1 : Int).toNat).length = x5_1.toNat from (by rw [List.length_take]; have h_ : (x5_1 : Int) ≤ (l0.length : Int) := of_decide_eq_true (by first | (with_reducible assumption) | assumption); omega)) ?_; repeat (first | exact (Kd.C_below HR132.out HB.out) | (with_reducible refine Kd.C_alloc ?_ _) | (with_reducible refine Kd.C_drewN ?_ _) | (with_reducible refine Kd.C_drew ?_))) | (repeat (first | exact (Kd.C_below HR132.out HB.out) | (with_reducible refine Kd.C_alloc ?_ _) | (with_reducible refine Kd.C_drewN ?_ _) | (with_reducible refine Kd.C_drew ?_))))
                        (case aB => exact (by repeat (first | (with_reducible first | exact HB.out | apply below_alloc | apply pw_below_drewN | apply below_drew1) | exact HB.out)))
                        (case aF => exact (fun k_ hk => Kd.fresh' (Kd.R_lt (by (with_reducible repeat (first | apply Kd.R_alloc | apply Kd.R_drewN | apply Kd.R_drew)); exact HO138.out)) k_ hk))
                        (case aO => exact (by (with_reducible repeat (first | apply Kd.R_alloc | apply Kd.R_drewN | apply Kd.R_drew)); exact Kd.R_mono HO131.out (fun _ hk => hk.2)))
                        (case aS => exact (below_size (by repeat (first | (with_reducible first | exact HB.out | apply below_alloc | apply pw_below_drewN | apply below_drew1) | exact HB.out))))
                        (case aL => have := LMc8.out; have hlx_ := (show (l0.take (x5_1 : Int).toNat).length = x5_1.toNat from (by rw [List.length_take]; have h_ : (x5_1 : Int) ≤ (l0.length : Int) := of_decide_eq_true (by first | (with_reducible assumption) | assumption); omega)); omega)
                        intro v134 w20 ho hb hg hat
                        rw [← Ny133.out] at ho
                        have n0_ := Aside0.mk (Kd.R_after (ok := (fun _ => True)) (by (with_reducible repeat (first | apply Kd.R_alloc | apply Kd.R_drewN | apply Kd.R_drew)); exact HO138.out) hg hat)
                        have n1_ := Aside0.mk (hb)
                        have n2_ := Aside0.mk (ho)
                        clear HO138
                        clear HB
                        clear HO131
                        have HO138 := n0_
                        have HB := n1_
                        have HO135 := n2_
                        clear n0_ n1_ n2_
                        clear ho hb hg hat
                        refine hK.out _ _ trivial (fun hHeld => ?_)
                        clear hK K
                        refine norm_ (a' := ?_) ?_ ?_
                        rotate_left
                        · show Act.put _ (some 24) _ = _
                          simp only [Act.put, List.setIfInBounds_toArray, List.set_cons_zero, List.set_cons_succ, i64_w, i32_w]
                          rfl
                        exact norm_ (by simp only [putAll, Act.put, List.setIfInBounds_toArray, List.set_cons_zero, List.set_cons_succ]) (hCont (v130, v134, v137) _ ⟨(by (with_reducible repeat (first | apply Kd.R_alloc | apply Kd.R_drewN | apply Kd.R_drew)); exact HO135.out), (by (with_reducible repeat (first | apply Kd.R_alloc | apply Kd.R_drewN | apply Kd.R_drew)); exact Kd.R_mono HO138.out (fun _ hk => hk.2)), (by repeat (first | (with_reducible first | exact HB.out | apply below_alloc | apply pw_below_drewN | apply below_drew1) | exact HB.out))⟩)
                    rintro ⟨v130, v134, v137⟩ w21 ⟨h0_, h1_, h2_⟩
                    have n0_ : Aside0 (Kd.R Kd.string 9 w21 w.heap.size (fun k_ => some k_ ≠ (v137 : Value).ownBlock) v134 y133) := ⟨h0_⟩
                    have n1_ : Aside0 (Kd.R Kd.string 9 w21 w.heap.size (fun k_ => some k_ ≠ (v134 : Value).ownBlock) v137 y136) := ⟨h1_⟩
                    have n2_ : Aside0 (Below w.heap.size w w21) := ⟨h2_⟩
                    clear HB
                    clear h0_ h1_ h2_
                    have HO135 := n0_
                    have HO138 := n1_
                    have HB := n2_
                    clear n0_ n1_ n2_
                    have hHeld := trivial
                    obtain ⟨Ao23, co23, eo23⟩ := Kd.R_slice HO138.out
                    (first | subst eo23 | (injection eo23 with f1_ f2_ f3_; have f4_ := f1_.symm; have f5_ := f3_.symm; clear f1_ f2_ f3_; subst f4_; subst f5_))
                    refine norm_ (a' := ?_) ?_ ?_
                    rotate_left
                    · simp only [putAll, Act.put, List.setIfInBounds_toArray, List.set_cons_zero, List.set_cons_succ]
                      rfl
                    refine one_ (i := 7) (N := some 27) #[true, true, true, true, true, true, true, true, true, true, true, false, false] rfl rfl (one_of HT_.out (by kernel_rfl)) (by decide) (fun K hK => ?_)
                    refine Kd.R_append_rows_step Kd.string (w0 := w) w.heap.size (by rfl) (.tmp 24) (.tmp 26) 26 9 (.string ⟨#[]⟩) 16 rfl Try.underlying26 info9 rfl (by decide) (by omega) v134 y133 y136 _ _ _ (fun k_ => some k_ ≠ (.slice Ao23 y136.length co23 : Value).ownBlock) (fun _ => False) rfl rfl ?aO ?aR (fun _ _ h => h) (fun _ h => h.elim) ?aF ?aB ?aS ?aL ?_
                    (case aR => repeat (first | exact (Kd.R_reads' HO138.out).2.2 | (with_reducible refine Kd.C_alloc ?_ _) | (with_reducible refine Kd.C_drewN ?_ _) | (with_reducible refine Kd.C_drew ?_)))
                    (case aB => exact (by repeat (first | (with_reducible first | exact HB.out | apply below_alloc | apply pw_below_drewN | apply below_drew1) | exact HB.out)))
                    (case aF => exact (fun k_ hk => Kd.fresh' (Kd.R_lt (by (with_reducible repeat (first | apply Kd.R_alloc | apply Kd.R_drewN | apply Kd.R_drew)); exact HO138.out)) k_ hk))
                    (case aO => exact (by (with_reducible repeat (first | apply Kd.R_alloc | apply Kd.R_drewN | apply Kd.R_drew)); exact HO135.out))
                    (case aS => exact (below_size (by repeat (first | (with_reducible first | exact HB.out | apply below_alloc | apply pw_below_drewN | apply below_drew1) | exact HB.out))))
                    (case aL => have := LMc9.out; omega)
                    intro v140 w22 ho hb hg hat
                    rw [← Ny139.out] at ho
                    have n0_ := Aside0.mk (Kd.R_after (ok := (fun _ => True)) (by (with_reducible repeat (first | apply Kd.R_alloc | apply Kd.R_drewN | apply Kd.R_drew)); exact Kd.R_mono HO138.out (fun _ hk => ⟨trivial, hk⟩)) hg hat)
                    have n1_ := Aside0.mk (hb)
                    have n2_ := Aside0.mk (ho)
                    clear HO138
                    clear HB
                    clear HO135
                    have HO138 := n0_
                    have HB := n1_
                    have HO141 := n2_
                    clear n0_ n1_ n2_
                    clear ho hb hg hat
                    refine hK.out _ _ trivial (fun hHeld => ?_)
                    clear hK K
                    refine norm_ (a' := ?_) ?_ ?_
                    rotate_left
                    · show Act.put _ (some 27) _ = _
                      simp only [Act.put, List.setIfInBounds_toArray, List.set_cons_zero, List.set_cons_succ, i64_w, i32_w]
                      rfl
                    refine one_ (i := 11) (N := some 31) #[true, true, true, true, true, true, true, true, true, true, true, true, false] rfl rfl (one_of HT_.out (by kernel_rfl)) (by decide) (fun K hK => ?_)
                    refine Kd.R_append_rows_step Kd.string (w0 := w) w.heap.size (by rfl) (.tmp 27) (.tmp 30) 26 9 (.string ⟨#[]⟩) 16 rfl Try.underlying26 info9 rfl (by decide) (by omega) v140 y139 (l0.drop (x5_1 : Int).toNat) _ _ _ (fun k_ => some k_ ≠ (.slice Ao23 y136.length co23 : Value).ownBlock) (fun _ => False) rfl rfl ?aO ?aR (fun _ _ h => h) (fun _ h => h.elim) ?aF ?aB ?aS ?aL ?_
                    (case aR => first | (refine lenRow_20 (show (l0.drop (x5_1 : Int).toNat).length = (l0.length - x5_1.toNat) from List.length_drop) ?_; repeat (first | exact (Kd.C_below HR142.out HB.out) | (with_reducible refine Kd.C_alloc ?_ _) | (with_reducible refine Kd.C_drewN ?_ _) | (with_reducible refine Kd.C_drew ?_))) | (repeat (first | exact (Kd.C_below HR142.out HB.out) | (with_reducible refine Kd.C_alloc ?_ _) | (with_reducible refine Kd.C_drewN ?_ _) | (with_reducible refine Kd.C_drew ?_))))
                    (case aB => exact (by repeat (first | (with_reducible first | exact HB.out | apply below_alloc | apply pw_below_drewN | apply below_drew1) | exact HB.out)))
                    (case aF => exact (fun k_ hk => Kd.fresh' (Kd.R_lt (by (with_reducible repeat (first | apply Kd.R_alloc | apply Kd.R_drewN | apply Kd.R_drew)); exact HO138.out)) k_ hk))
                    (case aO => exact (by (with_reducible repeat (first | apply Kd.R_alloc | apply Kd.R_drewN | apply Kd.R_drew)); exact HO141.out))
                    (case aS => exact (below_size (by repeat (first | (with_reducible first | exact HB.out | apply below_alloc | apply pw_below_drewN | apply below_drew1) | exact HB.out))))
                    (case aL => have := LMc12.out; have hlx_ := (show (l0.drop (x5_1 : Int).toNat).length = (l0.length - x5_1.toNat) from List.length_drop); omega)
                    intro v144 w24 ho hb hg hat
                    rw [← Ny143.out] at ho
                    have n0_ := Aside0.mk (Kd.R_after (ok := (fun _ => True)) (by (with_reducible repeat (first | apply Kd.R_alloc | apply Kd.R_drewN | apply Kd.R_drew)); exact HO138.out) hg hat)
                    have n1_ := Aside0.mk (hb)
                    have n2_ := Aside0.mk (ho)
                    clear HO138
                    clear HB
                    clear HO141
                    have HO138 := n0_
                    have HB := n1_
                    have HO145 := n2_
                    clear n0_ n1_ n2_
                    clear ho hb hg hat
                    refine hK.out _ _ trivial (fun hHeld => ?_)
                    clear hK K
                    refine norm_ (a' := ?_) ?_ ?_
                    rotate_left
                    · show Act.put _ (some 31) _ = _
                      simp only [Act.put, List.setIfInBounds_toArray, List.set_cons_zero, List.set_cons_succ, i64_w, i32_w]
                      rfl
                    refine pure_ (i := 12) (N := some 4) (v := ?_) (a' := ?_) #[true, true, true, true, true, true, true, true, true, true, true, true, true] rfl rfl (any_of HT_.out (by kernel_rfl)) (fun _ _ _ h => h) (Or.inl ⟨by rfl, ?_⟩) ?_ ?_
                    rotate_left
                    · intro w'
                      go_simp
                      with_reducible rfl
                    rotate_left
                    · simp only [Act.put, List.setIfInBounds_toArray, List.set_cons_zero, List.set_cons_succ, i64_w, i32_w]
                      rfl
                    refine done_ (done_of HT_.out (by kernel_rfl)) ?_
                    try go_wp2
                    go_ret
                    exact ⟨_, by first | rfl | (simp [errW_none, errW_some] <;> rfl) | (simp [*, errW_none, errW_some] <;> rfl), by (with_reducible repeat (first | apply Kd.R_alloc | apply Kd.R_drewN | apply Kd.R_drew)); exact Kd.R_mono HO145.out (fun _ hk => trivial), by repeat (first | (with_reducible first | exact HB.out | apply below_alloc | apply pw_below_drewN | apply below_drew1) | exact HB.out)⟩
                  · rw [if_neg c12] at H
                    exact absurd H (by simp)
                · rw [if_neg c9] at H
                  exact absurd H (by simp)
              · rw [if_neg c8] at H
                exact absurd H (by simp)
            · rw [if_neg c7] at H
              exact absurd H (by simp)
        · rw [if_neg c4] at H
          exact absurd H (by simp)
      · rw [if_neg c3] at H
        have c3b0 : decide (x5_1 < (l0.length : Int)) = false := decide_eq_false c3
        clear c3
        obtain ⟨y146, hy146⟩ : ∃ y_ : List ByteArray, y_ = (([] : List ByteArray)) := ⟨_, rfl⟩
        replace H : (if 0 ≤ x5_1 then (if x5_1 ≤ (l0.length : Int) then (if y146.length + (l0.take (x5_1 : Int).toNat).length < 8796093022208 then ((some (y146 ++ (l0.take (x5_1 : Int).toNat) : List ByteArray)).bind fun y150 => ((some (([a1] : List ByteArray) : List ByteArray)).bind fun y153 => (if y150.length + y153.length < 8796093022208 then ((some (y150 ++ y153 : List ByteArray)).bind fun y156 => (if y156.length + (l0.drop (x5_1 : Int).toNat).length < 8796093022208 then (some (y156 ++ (l0.drop (x5_1 : Int).toNat))) else (none))) else (none)))) else (none)) else (none)) else (none)) = some r := by first | (rw [hy146]; with_reducible exact H) | (have H2_ := (Option.bind_some _ _).symm.trans H; rw [hy146]; with_reducible exact H2_) | (have H2_ := (Option.bind_some _ _).symm.trans H; with_reducible exact H2_) | with_reducible exact H | (rw [hy146]; exact H) | exact H
        have Ny146 := Aside0.mk hy146
        clear hy146
        by_cases c25 : 0 ≤ x5_1
        · rw [if_pos c25] at H
          have c25b0 := eq_true c25
          have c25b1 : decide (0 ≤ x5_1) = true := decide_eq_true c25
          clear c25
          by_cases c26 : x5_1 ≤ (l0.length : Int)
          · rw [if_pos c26] at H
            have c26b0 := eq_true c26
            have c26b1 : decide (x5_1 ≤ (l0.length : Int)) = true := decide_eq_true c26
            clear c26
            by_cases c27 : y146.length + (l0.take (x5_1 : Int).toNat).length < 8796093022208
            · rw [if_pos c27] at H
              have LMc27 := Aside0.mk c27
              clear c27
              obtain ⟨y150, hy150⟩ : ∃ y_ : List ByteArray, y_ = (y146 ++ (l0.take (x5_1 : Int).toNat)) := ⟨_, rfl⟩
              replace H : ((some (([a1] : List ByteArray) : List ByteArray)).bind fun y153 => (if y150.length + y153.length < 8796093022208 then ((some (y150 ++ y153 : List ByteArray)).bind fun y156 => (if y156.length + (l0.drop (x5_1 : Int).toNat).length < 8796093022208 then (some (y156 ++ (l0.drop (x5_1 : Int).toNat))) else (none))) else (none))) = some r := by first | (rw [hy150]; with_reducible exact H) | (have H2_ := (Option.bind_some _ _).symm.trans H; rw [hy150]; with_reducible exact H2_) | (have H2_ := (Option.bind_some _ _).symm.trans H; with_reducible exact H2_) | with_reducible exact H | (rw [hy150]; exact H) | exact H
              have Ny150 := Aside0.mk hy150
              clear hy150
              obtain ⟨y153, hy153⟩ : ∃ y_ : List ByteArray, y_ = (([a1] : List ByteArray)) := ⟨_, rfl⟩
              replace H : (if y150.length + y153.length < 8796093022208 then ((some (y150 ++ y153 : List ByteArray)).bind fun y156 => (if y156.length + (l0.drop (x5_1 : Int).toNat).length < 8796093022208 then (some (y156 ++ (l0.drop (x5_1 : Int).toNat))) else (none))) else (none)) = some r := by first | (rw [hy153]; with_reducible exact H) | (have H2_ := (Option.bind_some _ _).symm.trans H; rw [hy153]; with_reducible exact H2_) | (have H2_ := (Option.bind_some _ _).symm.trans H; with_reducible exact H2_) | with_reducible exact H | (rw [hy153]; exact H) | exact H
              have Ny153 := Aside0.mk hy153
              clear hy153
              by_cases c28 : y150.length + y153.length < 8796093022208
              · rw [if_pos c28] at H
                have LMc28 := Aside0.mk c28
                clear c28
                obtain ⟨y156, hy156⟩ : ∃ y_ : List ByteArray, y_ = (y150 ++ y153) := ⟨_, rfl⟩
                replace H : (if y156.length + (l0.drop (x5_1 : Int).toNat).length < 8796093022208 then (some (y156 ++ (l0.drop (x5_1 : Int).toNat))) else (none)) = some r := by first | (rw [hy156]; with_reducible exact H) | (have H2_ := (Option.bind_some _ _).symm.trans H; rw [hy156]; with_reducible exact H2_) | (have H2_ := (Option.bind_some _ _).symm.trans H; with_reducible exact H2_) | with_reducible exact H | (rw [hy156]; exact H) | exact H
                have Ny156 := Aside0.mk hy156
                clear hy156
                have c29b0 := eq_true (of_decide_eq_true (by first | (with_reducible assumption) | assumption) : 0 ≤ x5_1)
                have c30b0 := eq_true (of_decide_eq_true (by first | (with_reducible assumption) | assumption) : x5_1 ≤ (l0.length : Int))
                by_cases c31 : y156.length + (l0.drop (x5_1 : Int).toNat).length < 8796093022208
                · rw [if_pos c31] at H
                  have LMc31 := Aside0.mk c31
                  clear c31
                  obtain ⟨y160, hy160⟩ : ∃ y_ : List ByteArray, y_ = (y156 ++ (l0.drop (x5_1 : Int).toNat)) := ⟨_, rfl⟩
                  replace H : (some y160) = some r := by first | (rw [hy160]; with_reducible exact H) | (have H2_ := (Option.bind_some _ _).symm.trans H; rw [hy160]; with_reducible exact H2_) | (have H2_ := (Option.bind_some _ _).symm.trans H; with_reducible exact H2_) | with_reducible exact H | (rw [hy160]; exact H) | exact H
                  have Ny160 := Aside0.mk hy160
                  clear hy160
                  obtain rfl := Option.some.inj H
                  try go_wp2
                  have n0_ := Aside0.mk (below_drew1 HB.out)
                  clear HB
                  have HB := n0_
                  clear n0_
                  obtain ⟨i033, hi033, _, hsz33, _⟩ := info_parts info9
                  obtain ⟨hcut33, hA33, hC33⟩ := print_take_of (P := Try.prog) Value.string (⟨#[]⟩ : ByteArray) 26 9 .i64 Try.underlying26 hi033 hsz33 A0 c0 l0 x5_1 (of_decide_eq_true (by first | (with_reducible assumption) | assumption)) (of_decide_eq_true (by first | (with_reducible assumption) | assumption)) HC0.out
                  have HR149 := Aside0.mk (Kd.C_of_reads (h1 := fun _ => rfl) (hA33 _ (Kd.reads_of_C HR0.out)))
                  have HC149 := Aside0.mk hC33
                  clear hA33 hC33 hi033 hsz33
                  obtain ⟨i034, hi034, _, hsz34, _⟩ := info_parts info9
                  obtain ⟨A34, hcut34, hA34, hC34⟩ := print_drop_of (P := Try.prog) Value.string (⟨#[]⟩ : ByteArray) 26 9 .i64 Try.underlying26 hi034 hsz34 A0 c0 l0 x5_1 (of_decide_eq_true (by first | (with_reducible assumption) | assumption)) (of_decide_eq_true (by first | (with_reducible assumption) | assumption)) HC0.out
                  have HR159 := Aside0.mk (Kd.C_of_reads (h1 := fun _ => rfl) (hA34 _ (Kd.reads_of_C HR0.out)))
                  have HC159 := Aside0.mk hC34
                  clear hA34 hC34 hi034 hsz34
                  refine start_ (n := 13) (S := fun w' => True) (ds := []) #[false, false, false, false, false, false, false, false, false, false, false, false, false] (by kernel_rfl) rfl rfl trivial (fun hHeld => ?_); refine with_tabW laws_inserted.tab4 laws_inserted.bits4 (fun HT_ HW_ => ?_)
                  generalize wr.drew = w32 at HB HR149 HR159 hHeld ⊢
                  refine pure_ (i := 1) (N := some 21) (v := ?_) (a' := ?_) #[false, true, false, false, false, false, false, false, false, false, false, false, false] rfl rfl (any_of HT_.out (by kernel_rfl)) (fun _ _ _ h => h) (Or.inl ⟨by rfl, ?_⟩) ?_ ?_
                  rotate_left
                  · intro w'
                    go_simp
                    with_reducible rfl
                  rotate_left
                  · simp only [Act.put, List.setIfInBounds_toArray, List.set_cons_zero, List.set_cons_succ, i64_w, i32_w]
                    rfl
                  refine pure_ (i := 2) (N := some 22) (v := ?_) (a' := ?_) #[false, true, true, false, false, false, false, false, false, false, false, false, false] rfl rfl (any_of HT_.out (by kernel_rfl)) (fun _ _ _ h => h) (Or.inl ⟨by rfl, ?_⟩) ?_ ?_
                  rotate_left
                  · intro w'
                    go_simp
                    with_reducible rfl
                  rotate_left
                  · simp only [Act.put, List.setIfInBounds_toArray, List.set_cons_zero, List.set_cons_succ, i64_w, i32_w]
                    rfl
                  refine pure_ (i := 3) (N := some 23) (v := ?_) (a' := ?_) #[false, true, true, true, false, false, false, false, false, false, false, false, false] rfl rfl (any_of HT_.out (by kernel_rfl)) (fun _ _ _ h => h) (Or.inl ⟨by rfl, ?_⟩) ?_ ?_
                  rotate_left
                  · intro w'
                    go_simp
                    with_reducible rfl
                  rotate_left
                  · simp only [Act.put, List.setIfInBounds_toArray, List.set_cons_zero, List.set_cons_succ, i64_w, i32_w]
                    rfl
                  refine pure_ (i := 5) (N := some 25) (v := ?_) (a' := ?_) #[false, true, true, true, false, true, false, false, false, false, false, false, false] rfl rfl (any_of HT_.out (by kernel_rfl)) (fun _ _ _ h => h) (Or.inl ⟨by rfl, ?_⟩) ?_ ?_
                  rotate_left
                  · intro w'
                    go_simp
                    with_reducible rfl
                  rotate_left
                  · simp only [Act.put, List.setIfInBounds_toArray, List.set_cons_zero, List.set_cons_succ, i64_w, i32_w]
                    rfl
                  refine pure_ (i := 8) (N := some 28) (v := ?_) (a' := ?_) #[false, true, true, true, false, true, false, false, true, false, false, false, false] rfl rfl (any_of HT_.out (by kernel_rfl)) (fun _ _ _ h => h) (Or.inl ⟨by rfl, ?_⟩) ?_ ?_
                  rotate_left
                  · intro w'
                    go_simp
                    with_reducible rfl
                  rotate_left
                  · simp only [Act.put, List.setIfInBounds_toArray, List.set_cons_zero, List.set_cons_succ, i64_w, i32_w]
                    rfl
                  refine pure_ (i := 9) (N := some 29) (v := ?_) (a' := ?_) #[false, true, true, true, false, true, false, false, true, true, false, false, false] rfl rfl (any_of HT_.out (by kernel_rfl)) (fun _ _ _ h => h) (Or.inl ⟨by rfl, ?_⟩) ?_ ?_
                  rotate_left
                  · intro w'
                    go_simp
                    with_reducible rfl
                  rotate_left
                  · simp only [Act.put, List.setIfInBounds_toArray, List.set_cons_zero, List.set_cons_succ, i64_w, i32_w]
                    rfl
                  refine pure_ (i := 10) (N := some 30) (v := ?_) (a' := ?_) #[false, true, true, true, false, true, false, false, true, true, true, false, false] rfl rfl (any_of HT_.out (by kernel_rfl)) (fun _ _ _ h => h) (Or.inl ⟨by rfl, ?_⟩) ?_ ?_
                  rotate_left
                  · intro w'
                    go_simp
                    with_reducible rfl
                  rotate_left
                  · simp only [Act.put, List.setIfInBounds_toArray, List.set_cons_zero, List.set_cons_succ, i64_w, i32_w]
                    rfl
                  refine join_ (σ := Value × Value × Value) 3 #[true, true, true, true, true, true, true, false, true, true, true, false, false] (fun s_ => [(20, s_.1), (24, s_.2.1), (26, s_.2.2)]) (fun s_ w' => (Kd.R Kd.string 9 w' w.heap.size (fun k_ => some k_ ≠ (s_.2.2 : Value).ownBlock) s_.2.1 y150) ∧ (Kd.R Kd.string 9 w' w.heap.size (fun k_ => some k_ ≠ (s_.2.1 : Value).ownBlock) s_.2.2 y153) ∧ (Below w.heap.size w w')) ?_ ?_
                  rotate_left
                  · intro hCont
                    refine two_ (i := 0) (j := 6) (Ni := some 20) (Nj := some 26) #[true, true, true, true, false, true, false, false, true, true, true, false, false] #[false, true, true, true, false, true, true, false, true, true, true, false, false] rfl rfl rfl rfl (two_of HT_.out (by kernel_rfl)) (by decide) (by decide) (fun K hK => ?_) (fun K hK => ?_)
                    · skip
                      refine Kd.R_lit_step Kd.string _ 9 ?hg (N := 20) ?hd (xs := ([] : List ByteArray)) (inner := []) (ok := fun _ => True) (okp := fun _ => True) ?hr ?hp (fun _ hk => hk) trivial (Below.refl _ _) (Nat.le_refl _) (by simp) ?_; (case hd => rfl); (case hg => rfl); (case hr => first | (go_simp; done) | (go_simp; rfl)); (case hp => exact (Reps.none _ _))
                      intro v147 w35 ho36 hb hg_ hnew_
                      clear hg_ hnew_
                      (first | rw [← Ny146.out] at ho36 | (simp only [Int.reduceToNat] at ho36; rw [← Ny146.out] at ho36))
                      have n0_ := Aside0.mk (Kd.R_lower ho36 (below_size (by repeat (first | (with_reducible first | exact HB.out | apply below_alloc | apply pw_below_drewN | apply below_drew1) | exact HB.out))))
                      have n1_ := Aside0.mk (below_step (by repeat (first | (with_reducible first | exact HB.out | apply below_alloc | apply pw_below_drewN | apply below_drew1) | exact HB.out)) hb)
                      clear HB
                      have HO148 := n0_
                      have HB := n1_
                      clear n0_ n1_
                      clear hb ho36
                      refine hK.out _ _ trivial (fun hHeld => ?_)
                      clear hK K
                      refine norm_ (a' := ?_) ?_ ?_
                      rotate_left
                      · show Act.put _ (some 20) _ = _
                        simp only [Act.put, List.setIfInBounds_toArray, List.set_cons_zero, List.set_cons_succ, i64_w, i32_w]
                        rfl
                      refine two_ (i := 4) (j := 6) (Ni := some 24) (Nj := some 26) #[true, true, true, true, true, true, false, false, true, true, true, false, false] #[true, true, true, true, false, true, true, false, true, true, true, false, false] rfl rfl rfl rfl (two_of HT_.out (by kernel_rfl)) (by decide) (by decide) (fun K hK => ?_) (fun K hK => ?_)
                      · skip
                        refine Kd.R_append_rows_step Kd.string (w0 := w) w.heap.size (by rfl) (.tmp 20) (.tmp 23) 26 9 (.string ⟨#[]⟩) 16 rfl Try.underlying26 info9 rfl (by decide) (by omega) v147 y146 (l0.take (x5_1 : Int).toNat) _ _ _ (fun _ => True) (fun _ => False) rfl rfl ?aO ?aR (fun _ _ h => h) (fun _ h => h.elim) ?aF ?aB ?aS ?aL ?_
                        (case aR => first | (refine lenRow_20 (show (l0.take (x5_1 : Int).toNat).length = x5_1.toNat from (by rw [List.length_take]; have h_ : (x5_1 : Int) ≤ (l0.length : Int) := of_decide_eq_true (by first | (with_reducible assumption) | assumption); omega)) ?_; repeat (first | exact (Kd.C_below HR149.out HB.out) | (with_reducible refine Kd.C_alloc ?_ _) | (with_reducible refine Kd.C_drewN ?_ _) | (with_reducible refine Kd.C_drew ?_))) | (repeat (first | exact (Kd.C_below HR149.out HB.out) | (with_reducible refine Kd.C_alloc ?_ _) | (with_reducible refine Kd.C_drewN ?_ _) | (with_reducible refine Kd.C_drew ?_))))
                        (case aB => exact (by repeat (first | (with_reducible first | exact HB.out | apply below_alloc | apply pw_below_drewN | apply below_drew1) | exact HB.out)))
                        (case aF => exact (fun _ _ => trivial))
                        (case aO => exact (by (with_reducible repeat (first | apply Kd.R_alloc | apply Kd.R_drewN | apply Kd.R_drew)); exact HO148.out))
                        (case aS => exact (below_size (by repeat (first | (with_reducible first | exact HB.out | apply below_alloc | apply pw_below_drewN | apply below_drew1) | exact HB.out))))
                        (case aL => have := LMc27.out; have hlx_ := (show (l0.take (x5_1 : Int).toNat).length = x5_1.toNat from (by rw [List.length_take]; have h_ : (x5_1 : Int) ≤ (l0.length : Int) := of_decide_eq_true (by first | (with_reducible assumption) | assumption); omega)); omega)
                        intro v151 w37 ho hb hg hat
                        rw [← Ny150.out] at ho
                        have n0_ := Aside0.mk (hb)
                        have n1_ := Aside0.mk (ho)
                        clear HB
                        clear HO148
                        have HB := n0_
                        have HO152 := n1_
                        clear n0_ n1_
                        clear ho hb hg hat
                        refine hK.out _ _ trivial (fun hHeld => ?_)
                        clear hK K
                        refine norm_ (a' := ?_) ?_ ?_
                        rotate_left
                        · show Act.put _ (some 24) _ = _
                          simp only [Act.put, List.setIfInBounds_toArray, List.set_cons_zero, List.set_cons_succ, i64_w, i32_w]
                          rfl
                        refine one_ (i := 6) (N := some 26) #[true, true, true, true, true, true, true, false, true, true, true, false, false] rfl rfl (one_of HT_.out (by kernel_rfl)) (by decide) (fun K hK => ?_)
                        refine Kd.R_lit_step Kd.string _ 9 ?hg (N := 26) ?hd (xs := ([a1] : List ByteArray)) (inner := [.string a1]) (ok := fun _ => True) (okp := fun _ => True) ?hr ?hp (fun _ hk => hk) trivial (Below.refl _ _) (Nat.le_refl _) (by simp) ?_; (case hd => rfl); (case hg => rfl); (case hr => first | (go_simp; done) | (go_simp; rfl)); (case hp => exact (Reps.one (show Kd.M Kd.string _ _ _ a1 [.string a1] from rfl) (Reps.none _ _)))
                        intro v154 w38 ho39 hb hg_ hnew_
                        clear hg_ hnew_
                        (first | rw [← Ny153.out] at ho39 | (simp only [Int.reduceToNat] at ho39; rw [← Ny153.out] at ho39))
                        have n0_ := Aside0.mk (Kd.R_elder' (by (with_reducible repeat (first | apply Kd.R_alloc | apply Kd.R_drewN | apply Kd.R_drew)); exact HO152.out) (by first | exact Kd.N_base ho39 | exact Kd.S_base ho39 | exact Kd.R_base ho39) hb)
                        have n1_ := Aside0.mk (Kd.R_lower (Kd.R_new' ho39 (Kd.R_lt (by (with_reducible repeat (first | apply Kd.R_alloc | apply Kd.R_drewN | apply Kd.R_drew)); exact HO152.out))) (below_size (by repeat (first | (with_reducible first | exact HB.out | apply below_alloc | apply pw_below_drewN | apply below_drew1) | exact HB.out))))
                        have n2_ := Aside0.mk (below_step (by repeat (first | (with_reducible first | exact HB.out | apply below_alloc | apply pw_below_drewN | apply below_drew1) | exact HB.out)) hb)
                        clear HO152
                        clear HB
                        have HO152 := n0_
                        have HO155 := n1_
                        have HB := n2_
                        clear n0_ n1_ n2_
                        clear hb ho39
                        refine hK.out _ _ trivial (fun hHeld => ?_)
                        clear hK K
                        refine norm_ (a' := ?_) ?_ ?_
                        rotate_left
                        · show Act.put _ (some 26) _ = _
                          simp only [Act.put, List.setIfInBounds_toArray, List.set_cons_zero, List.set_cons_succ, i64_w, i32_w]
                          rfl
                        exact norm_ (by simp only [putAll, Act.put, List.setIfInBounds_toArray, List.set_cons_zero, List.set_cons_succ]) (hCont (v147, v151, v154) _ ⟨(by (with_reducible repeat (first | apply Kd.R_alloc | apply Kd.R_drewN | apply Kd.R_drew)); exact Kd.R_mono HO152.out (fun _ hk => hk.2)), (by (with_reducible repeat (first | apply Kd.R_alloc | apply Kd.R_drewN | apply Kd.R_drew)); exact Kd.R_mono HO155.out (fun _ hk => hk.2)), (by repeat (first | (with_reducible first | exact HB.out | apply below_alloc | apply pw_below_drewN | apply below_drew1) | exact HB.out))⟩)
                      · skip
                        refine Kd.R_lit_step Kd.string _ 9 ?hg (N := 26) ?hd (xs := ([a1] : List ByteArray)) (inner := [.string a1]) (ok := fun _ => True) (okp := fun _ => True) ?hr ?hp (fun _ hk => hk) trivial (Below.refl _ _) (Nat.le_refl _) (by simp) ?_; (case hd => rfl); (case hg => rfl); (case hr => first | (go_simp; done) | (go_simp; rfl)); (case hp => exact (Reps.one (show Kd.M Kd.string _ _ _ a1 [.string a1] from rfl) (Reps.none _ _)))
                        intro v154 w37 ho38 hb hg_ hnew_
                        clear hg_ hnew_
                        (first | rw [← Ny153.out] at ho38 | (simp only [Int.reduceToNat] at ho38; rw [← Ny153.out] at ho38))
                        have n0_ := Aside0.mk (Kd.R_elder' (by (with_reducible repeat (first | apply Kd.R_alloc | apply Kd.R_drewN | apply Kd.R_drew)); exact HO148.out) (by first | exact Kd.N_base ho38 | exact Kd.S_base ho38 | exact Kd.R_base ho38) hb)
                        have n1_ := Aside0.mk (Kd.R_lower (Kd.R_new' ho38 (Kd.R_lt (by (with_reducible repeat (first | apply Kd.R_alloc | apply Kd.R_drewN | apply Kd.R_drew)); exact HO148.out))) (below_size (by repeat (first | (with_reducible first | exact HB.out | apply below_alloc | apply pw_below_drewN | apply below_drew1) | exact HB.out))))
                        have n2_ := Aside0.mk (below_step (by repeat (first | (with_reducible first | exact HB.out | apply below_alloc | apply pw_below_drewN | apply below_drew1) | exact HB.out)) hb)
                        clear HO148
                        clear HB
                        have HO148 := n0_
                        have HO155 := n1_
                        have HB := n2_
                        clear n0_ n1_ n2_
                        clear hb ho38
                        refine hK.out _ _ trivial (fun hHeld => ?_)
                        clear hK K
                        refine norm_ (a' := ?_) ?_ ?_
                        rotate_left
                        · show Act.put _ (some 26) _ = _
                          simp only [Act.put, List.setIfInBounds_toArray, List.set_cons_zero, List.set_cons_succ, i64_w, i32_w]
                          rfl
                        refine one_ (i := 4) (N := some 24) #[true, true, true, true, true, true, true, false, true, true, true, false, false] rfl rfl (one_of HT_.out (by kernel_rfl)) (by decide) (fun K hK => ?_)
                        refine Kd.R_append_rows_step Kd.string (w0 := w) w.heap.size (by rfl) (.tmp 20) (.tmp 23) 26 9 (.string ⟨#[]⟩) 16 rfl Try.underlying26 info9 rfl (by decide) (by omega) v147 y146 (l0.take (x5_1 : Int).toNat) _ _ _ (fun k_ => some k_ ≠ (v154 : Value).ownBlock) (fun _ => False) rfl rfl ?aO ?aR (fun _ _ h => h) (fun _ h => h.elim) ?aF ?aB ?aS ?aL ?_
                        (case aR => first | (refine lenRow_20 (show (l0.take (x5_1 : Int).toNat).length = x5_1.toNat from (by rw [List.length_take]; have h_ : (x5_1 : Int) ≤ (l0.length : Int) := of_decide_eq_true (by first | (with_reducible assumption) | assumption); omega)) ?_; repeat (first | exact (Kd.C_below HR149.out HB.out) | (with_reducible refine Kd.C_alloc ?_ _) | (with_reducible refine Kd.C_drewN ?_ _) | (with_reducible refine Kd.C_drew ?_))) | (repeat (first | exact (Kd.C_below HR149.out HB.out) | (with_reducible refine Kd.C_alloc ?_ _) | (with_reducible refine Kd.C_drewN ?_ _) | (with_reducible refine Kd.C_drew ?_))))
                        (case aB => exact (by repeat (first | (with_reducible first | exact HB.out | apply below_alloc | apply pw_below_drewN | apply below_drew1) | exact HB.out)))
                        (case aF => exact (fun k_ hk => Kd.fresh' (Kd.R_lt (by (with_reducible repeat (first | apply Kd.R_alloc | apply Kd.R_drewN | apply Kd.R_drew)); exact HO155.out)) k_ hk))
                        (case aO => exact (by (with_reducible repeat (first | apply Kd.R_alloc | apply Kd.R_drewN | apply Kd.R_drew)); exact Kd.R_mono HO148.out (fun _ hk => hk.2)))
                        (case aS => exact (below_size (by repeat (first | (with_reducible first | exact HB.out | apply below_alloc | apply pw_below_drewN | apply below_drew1) | exact HB.out))))
                        (case aL => have := LMc27.out; have hlx_ := (show (l0.take (x5_1 : Int).toNat).length = x5_1.toNat from (by rw [List.length_take]; have h_ : (x5_1 : Int) ≤ (l0.length : Int) := of_decide_eq_true (by first | (with_reducible assumption) | assumption); omega)); omega)
                        intro v151 w39 ho hb hg hat
                        rw [← Ny150.out] at ho
                        have n0_ := Aside0.mk (Kd.R_after (ok := (fun _ => True)) (by (with_reducible repeat (first | apply Kd.R_alloc | apply Kd.R_drewN | apply Kd.R_drew)); exact HO155.out) hg hat)
                        have n1_ := Aside0.mk (hb)
                        have n2_ := Aside0.mk (ho)
                        clear HO155
                        clear HB
                        clear HO148
                        have HO155 := n0_
                        have HB := n1_
                        have HO152 := n2_
                        clear n0_ n1_ n2_
                        clear ho hb hg hat
                        refine hK.out _ _ trivial (fun hHeld => ?_)
                        clear hK K
                        refine norm_ (a' := ?_) ?_ ?_
                        rotate_left
                        · show Act.put _ (some 24) _ = _
                          simp only [Act.put, List.setIfInBounds_toArray, List.set_cons_zero, List.set_cons_succ, i64_w, i32_w]
                          rfl
                        exact norm_ (by simp only [putAll, Act.put, List.setIfInBounds_toArray, List.set_cons_zero, List.set_cons_succ]) (hCont (v147, v151, v154) _ ⟨(by (with_reducible repeat (first | apply Kd.R_alloc | apply Kd.R_drewN | apply Kd.R_drew)); exact HO152.out), (by (with_reducible repeat (first | apply Kd.R_alloc | apply Kd.R_drewN | apply Kd.R_drew)); exact Kd.R_mono HO155.out (fun _ hk => hk.2)), (by repeat (first | (with_reducible first | exact HB.out | apply below_alloc | apply pw_below_drewN | apply below_drew1) | exact HB.out))⟩)
                    · skip
                      refine Kd.R_lit_step Kd.string _ 9 ?hg (N := 26) ?hd (xs := ([a1] : List ByteArray)) (inner := [.string a1]) (ok := fun _ => True) (okp := fun _ => True) ?hr ?hp (fun _ hk => hk) trivial (Below.refl _ _) (Nat.le_refl _) (by simp) ?_; (case hd => rfl); (case hg => rfl); (case hr => first | (go_simp; done) | (go_simp; rfl)); (case hp => exact (Reps.one (show Kd.M Kd.string _ _ _ a1 [.string a1] from rfl) (Reps.none _ _)))
                      intro v154 w35 ho36 hb hg_ hnew_
                      clear hg_ hnew_
                      (first | rw [← Ny153.out] at ho36 | (simp only [Int.reduceToNat] at ho36; rw [← Ny153.out] at ho36))
                      have n0_ := Aside0.mk (Kd.R_lower ho36 (below_size (by repeat (first | (with_reducible first | exact HB.out | apply below_alloc | apply pw_below_drewN | apply below_drew1) | exact HB.out))))
                      have n1_ := Aside0.mk (below_step (by repeat (first | (with_reducible first | exact HB.out | apply below_alloc | apply pw_below_drewN | apply below_drew1) | exact HB.out)) hb)
                      clear HB
                      have HO155 := n0_
                      have HB := n1_
                      clear n0_ n1_
                      clear hb ho36
                      refine hK.out _ _ trivial (fun hHeld => ?_)
                      clear hK K
                      refine norm_ (a' := ?_) ?_ ?_
                      rotate_left
                      · show Act.put _ (some 26) _ = _
                        simp only [Act.put, List.setIfInBounds_toArray, List.set_cons_zero, List.set_cons_succ, i64_w, i32_w]
                        rfl
                      refine one_ (i := 0) (N := some 20) #[true, true, true, true, false, true, true, false, true, true, true, false, false] rfl rfl (one_of HT_.out (by kernel_rfl)) (by decide) (fun K hK => ?_)
                      refine Kd.R_lit_step Kd.string _ 9 ?hg (N := 20) ?hd (xs := ([] : List ByteArray)) (inner := []) (ok := fun _ => True) (okp := fun _ => True) ?hr ?hp (fun _ hk => hk) trivial (Below.refl _ _) (Nat.le_refl _) (by simp) ?_; (case hd => rfl); (case hg => rfl); (case hr => first | (go_simp; done) | (go_simp; rfl)); (case hp => exact (Reps.none _ _))
                      intro v147 w37 ho38 hb hg_ hnew_
                      clear hg_ hnew_
                      (first | rw [← Ny146.out] at ho38 | (simp only [Int.reduceToNat] at ho38; rw [← Ny146.out] at ho38))
                      have n0_ := Aside0.mk (Kd.R_elder' (by (with_reducible repeat (first | apply Kd.R_alloc | apply Kd.R_drewN | apply Kd.R_drew)); exact HO155.out) (by first | exact Kd.N_base ho38 | exact Kd.S_base ho38 | exact Kd.R_base ho38) hb)
                      have n1_ := Aside0.mk (Kd.R_lower (Kd.R_new' ho38 (Kd.R_lt (by (with_reducible repeat (first | apply Kd.R_alloc | apply Kd.R_drewN | apply Kd.R_drew)); exact HO155.out))) (below_size (by repeat (first | (with_reducible first | exact HB.out | apply below_alloc | apply pw_below_drewN | apply below_drew1) | exact HB.out))))
                      have n2_ := Aside0.mk (below_step (by repeat (first | (with_reducible first | exact HB.out | apply below_alloc | apply pw_below_drewN | apply below_drew1) | exact HB.out)) hb)
                      clear HO155
                      clear HB
                      have HO155 := n0_
                      have HO148 := n1_
                      have HB := n2_
                      clear n0_ n1_ n2_
                      clear hb ho38
                      refine hK.out _ _ trivial (fun hHeld => ?_)
                      clear hK K
                      refine norm_ (a' := ?_) ?_ ?_
                      rotate_left
                      · show Act.put _ (some 20) _ = _
                        simp only [Act.put, List.setIfInBounds_toArray, List.set_cons_zero, List.set_cons_succ, i64_w, i32_w]
                        rfl
                      refine one_ (i := 4) (N := some 24) #[true, true, true, true, true, true, true, false, true, true, true, false, false] rfl rfl (one_of HT_.out (by kernel_rfl)) (by decide) (fun K hK => ?_)
                      refine Kd.R_append_rows_step Kd.string (w0 := w) w.heap.size (by rfl) (.tmp 20) (.tmp 23) 26 9 (.string ⟨#[]⟩) 16 rfl Try.underlying26 info9 rfl (by decide) (by omega) v147 y146 (l0.take (x5_1 : Int).toNat) _ _ _ (fun k_ => some k_ ≠ (v154 : Value).ownBlock) (fun _ => False) rfl rfl ?aO ?aR (fun _ _ h => h) (fun _ h => h.elim) ?aF ?aB ?aS ?aL ?_
                      (case aR => first | (refine lenRow_20 (show (l0.take (x5_1 : Int).toNat).length = x5_1.toNat from (by rw [List.length_take]; have h_ : (x5_1 : Int) ≤ (l0.length : Int) := of_decide_eq_true (by first | (with_reducible assumption) | assumption); omega)) ?_; repeat (first | exact (Kd.C_below HR149.out HB.out) | (with_reducible refine Kd.C_alloc ?_ _) | (with_reducible refine Kd.C_drewN ?_ _) | (with_reducible refine Kd.C_drew ?_))) | (repeat (first | exact (Kd.C_below HR149.out HB.out) | (with_reducible refine Kd.C_alloc ?_ _) | (with_reducible refine Kd.C_drewN ?_ _) | (with_reducible refine Kd.C_drew ?_))))
                      (case aB => exact (by repeat (first | (with_reducible first | exact HB.out | apply below_alloc | apply pw_below_drewN | apply below_drew1) | exact HB.out)))
                      (case aF => exact (fun k_ hk => Kd.fresh' (Kd.R_lt (by (with_reducible repeat (first | apply Kd.R_alloc | apply Kd.R_drewN | apply Kd.R_drew)); exact HO155.out)) k_ hk))
                      (case aO => exact (by (with_reducible repeat (first | apply Kd.R_alloc | apply Kd.R_drewN | apply Kd.R_drew)); exact Kd.R_mono HO148.out (fun _ hk => hk.2)))
                      (case aS => exact (below_size (by repeat (first | (with_reducible first | exact HB.out | apply below_alloc | apply pw_below_drewN | apply below_drew1) | exact HB.out))))
                      (case aL => have := LMc27.out; have hlx_ := (show (l0.take (x5_1 : Int).toNat).length = x5_1.toNat from (by rw [List.length_take]; have h_ : (x5_1 : Int) ≤ (l0.length : Int) := of_decide_eq_true (by first | (with_reducible assumption) | assumption); omega)); omega)
                      intro v151 w39 ho hb hg hat
                      rw [← Ny150.out] at ho
                      have n0_ := Aside0.mk (Kd.R_after (ok := (fun _ => True)) (by (with_reducible repeat (first | apply Kd.R_alloc | apply Kd.R_drewN | apply Kd.R_drew)); exact HO155.out) hg hat)
                      have n1_ := Aside0.mk (hb)
                      have n2_ := Aside0.mk (ho)
                      clear HO155
                      clear HB
                      clear HO148
                      have HO155 := n0_
                      have HB := n1_
                      have HO152 := n2_
                      clear n0_ n1_ n2_
                      clear ho hb hg hat
                      refine hK.out _ _ trivial (fun hHeld => ?_)
                      clear hK K
                      refine norm_ (a' := ?_) ?_ ?_
                      rotate_left
                      · show Act.put _ (some 24) _ = _
                        simp only [Act.put, List.setIfInBounds_toArray, List.set_cons_zero, List.set_cons_succ, i64_w, i32_w]
                        rfl
                      exact norm_ (by simp only [putAll, Act.put, List.setIfInBounds_toArray, List.set_cons_zero, List.set_cons_succ]) (hCont (v147, v151, v154) _ ⟨(by (with_reducible repeat (first | apply Kd.R_alloc | apply Kd.R_drewN | apply Kd.R_drew)); exact HO152.out), (by (with_reducible repeat (first | apply Kd.R_alloc | apply Kd.R_drewN | apply Kd.R_drew)); exact Kd.R_mono HO155.out (fun _ hk => hk.2)), (by repeat (first | (with_reducible first | exact HB.out | apply below_alloc | apply pw_below_drewN | apply below_drew1) | exact HB.out))⟩)
                  rintro ⟨v147, v151, v154⟩ w40 ⟨h0_, h1_, h2_⟩
                  have n0_ : Aside0 (Kd.R Kd.string 9 w40 w.heap.size (fun k_ => some k_ ≠ (v154 : Value).ownBlock) v151 y150) := ⟨h0_⟩
                  have n1_ : Aside0 (Kd.R Kd.string 9 w40 w.heap.size (fun k_ => some k_ ≠ (v151 : Value).ownBlock) v154 y153) := ⟨h1_⟩
                  have n2_ : Aside0 (Below w.heap.size w w40) := ⟨h2_⟩
                  clear HB
                  clear h0_ h1_ h2_
                  have HO152 := n0_
                  have HO155 := n1_
                  have HB := n2_
                  clear n0_ n1_ n2_
                  have hHeld := trivial
                  obtain ⟨Ao42, co42, eo42⟩ := Kd.R_slice HO155.out
                  (first | subst eo42 | (injection eo42 with f1_ f2_ f3_; have f4_ := f1_.symm; have f5_ := f3_.symm; clear f1_ f2_ f3_; subst f4_; subst f5_))
                  refine norm_ (a' := ?_) ?_ ?_
                  rotate_left
                  · simp only [putAll, Act.put, List.setIfInBounds_toArray, List.set_cons_zero, List.set_cons_succ]
                    rfl
                  refine one_ (i := 7) (N := some 27) #[true, true, true, true, true, true, true, true, true, true, true, false, false] rfl rfl (one_of HT_.out (by kernel_rfl)) (by decide) (fun K hK => ?_)
                  refine Kd.R_append_rows_step Kd.string (w0 := w) w.heap.size (by rfl) (.tmp 24) (.tmp 26) 26 9 (.string ⟨#[]⟩) 16 rfl Try.underlying26 info9 rfl (by decide) (by omega) v151 y150 y153 _ _ _ (fun k_ => some k_ ≠ (.slice Ao42 y153.length co42 : Value).ownBlock) (fun _ => False) rfl rfl ?aO ?aR (fun _ _ h => h) (fun _ h => h.elim) ?aF ?aB ?aS ?aL ?_
                  (case aR => repeat (first | exact (Kd.R_reads' HO155.out).2.2 | (with_reducible refine Kd.C_alloc ?_ _) | (with_reducible refine Kd.C_drewN ?_ _) | (with_reducible refine Kd.C_drew ?_)))
                  (case aB => exact (by repeat (first | (with_reducible first | exact HB.out | apply below_alloc | apply pw_below_drewN | apply below_drew1) | exact HB.out)))
                  (case aF => exact (fun k_ hk => Kd.fresh' (Kd.R_lt (by (with_reducible repeat (first | apply Kd.R_alloc | apply Kd.R_drewN | apply Kd.R_drew)); exact HO155.out)) k_ hk))
                  (case aO => exact (by (with_reducible repeat (first | apply Kd.R_alloc | apply Kd.R_drewN | apply Kd.R_drew)); exact HO152.out))
                  (case aS => exact (below_size (by repeat (first | (with_reducible first | exact HB.out | apply below_alloc | apply pw_below_drewN | apply below_drew1) | exact HB.out))))
                  (case aL => have := LMc28.out; omega)
                  intro v157 w41 ho hb hg hat
                  rw [← Ny156.out] at ho
                  have n0_ := Aside0.mk (Kd.R_after (ok := (fun _ => True)) (by (with_reducible repeat (first | apply Kd.R_alloc | apply Kd.R_drewN | apply Kd.R_drew)); exact Kd.R_mono HO155.out (fun _ hk => ⟨trivial, hk⟩)) hg hat)
                  have n1_ := Aside0.mk (hb)
                  have n2_ := Aside0.mk (ho)
                  clear HO155
                  clear HB
                  clear HO152
                  have HO155 := n0_
                  have HB := n1_
                  have HO158 := n2_
                  clear n0_ n1_ n2_
                  clear ho hb hg hat
                  refine hK.out _ _ trivial (fun hHeld => ?_)
                  clear hK K
                  refine norm_ (a' := ?_) ?_ ?_
                  rotate_left
                  · show Act.put _ (some 27) _ = _
                    simp only [Act.put, List.setIfInBounds_toArray, List.set_cons_zero, List.set_cons_succ, i64_w, i32_w]
                    rfl
                  refine one_ (i := 11) (N := some 31) #[true, true, true, true, true, true, true, true, true, true, true, true, false] rfl rfl (one_of HT_.out (by kernel_rfl)) (by decide) (fun K hK => ?_)
                  refine Kd.R_append_rows_step Kd.string (w0 := w) w.heap.size (by rfl) (.tmp 27) (.tmp 30) 26 9 (.string ⟨#[]⟩) 16 rfl Try.underlying26 info9 rfl (by decide) (by omega) v157 y156 (l0.drop (x5_1 : Int).toNat) _ _ _ (fun k_ => some k_ ≠ (.slice Ao42 y153.length co42 : Value).ownBlock) (fun _ => False) rfl rfl ?aO ?aR (fun _ _ h => h) (fun _ h => h.elim) ?aF ?aB ?aS ?aL ?_
                  (case aR => first | (refine lenRow_20 (show (l0.drop (x5_1 : Int).toNat).length = (l0.length - x5_1.toNat) from List.length_drop) ?_; repeat (first | exact (Kd.C_below HR159.out HB.out) | (with_reducible refine Kd.C_alloc ?_ _) | (with_reducible refine Kd.C_drewN ?_ _) | (with_reducible refine Kd.C_drew ?_))) | (repeat (first | exact (Kd.C_below HR159.out HB.out) | (with_reducible refine Kd.C_alloc ?_ _) | (with_reducible refine Kd.C_drewN ?_ _) | (with_reducible refine Kd.C_drew ?_))))
                  (case aB => exact (by repeat (first | (with_reducible first | exact HB.out | apply below_alloc | apply pw_below_drewN | apply below_drew1) | exact HB.out)))
                  (case aF => exact (fun k_ hk => Kd.fresh' (Kd.R_lt (by (with_reducible repeat (first | apply Kd.R_alloc | apply Kd.R_drewN | apply Kd.R_drew)); exact HO155.out)) k_ hk))
                  (case aO => exact (by (with_reducible repeat (first | apply Kd.R_alloc | apply Kd.R_drewN | apply Kd.R_drew)); exact HO158.out))
                  (case aS => exact (below_size (by repeat (first | (with_reducible first | exact HB.out | apply below_alloc | apply pw_below_drewN | apply below_drew1) | exact HB.out))))
                  (case aL => have := LMc31.out; have hlx_ := (show (l0.drop (x5_1 : Int).toNat).length = (l0.length - x5_1.toNat) from List.length_drop); omega)
                  intro v161 w43 ho hb hg hat
                  rw [← Ny160.out] at ho
                  have n0_ := Aside0.mk (Kd.R_after (ok := (fun _ => True)) (by (with_reducible repeat (first | apply Kd.R_alloc | apply Kd.R_drewN | apply Kd.R_drew)); exact HO155.out) hg hat)
                  have n1_ := Aside0.mk (hb)
                  have n2_ := Aside0.mk (ho)
                  clear HO155
                  clear HB
                  clear HO158
                  have HO155 := n0_
                  have HB := n1_
                  have HO162 := n2_
                  clear n0_ n1_ n2_
                  clear ho hb hg hat
                  refine hK.out _ _ trivial (fun hHeld => ?_)
                  clear hK K
                  refine norm_ (a' := ?_) ?_ ?_
                  rotate_left
                  · show Act.put _ (some 31) _ = _
                    simp only [Act.put, List.setIfInBounds_toArray, List.set_cons_zero, List.set_cons_succ, i64_w, i32_w]
                    rfl
                  refine pure_ (i := 12) (N := some 4) (v := ?_) (a' := ?_) #[true, true, true, true, true, true, true, true, true, true, true, true, true] rfl rfl (any_of HT_.out (by kernel_rfl)) (fun _ _ _ h => h) (Or.inl ⟨by rfl, ?_⟩) ?_ ?_
                  rotate_left
                  · intro w'
                    go_simp
                    with_reducible rfl
                  rotate_left
                  · simp only [Act.put, List.setIfInBounds_toArray, List.set_cons_zero, List.set_cons_succ, i64_w, i32_w]
                    rfl
                  refine done_ (done_of HT_.out (by kernel_rfl)) ?_
                  try go_wp2
                  go_ret
                  exact ⟨_, by first | rfl | (simp [errW_none, errW_some] <;> rfl) | (simp [*, errW_none, errW_some] <;> rfl), by (with_reducible repeat (first | apply Kd.R_alloc | apply Kd.R_drewN | apply Kd.R_drew)); exact Kd.R_mono HO162.out (fun _ hk => trivial), by repeat (first | (with_reducible first | exact HB.out | apply below_alloc | apply pw_below_drewN | apply below_drew1) | exact HB.out)⟩
                · rw [if_neg c31] at H
                  exact absurd H (by simp)
              · rw [if_neg c28] at H
                exact absurd H (by simp)
            · rw [if_neg c27] at H
              exact absurd H (by simp)
          · rw [if_neg c26] at H
            exact absurd H (by simp)
        · rw [if_neg c25] at H
          exact absurd H (by simp)

end Go.Proofs.Ythecfligfhpccaa.P
