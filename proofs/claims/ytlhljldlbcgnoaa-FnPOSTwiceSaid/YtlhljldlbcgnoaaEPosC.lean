/- Numbers of lists of names, and the names by their numbers, for every list: each name its place among the names in the order in which they come. Conditions: lists of at most 1,000, names' count at most 60,000. -/
import Derived.Test.YtlhljldlbcgnoaaEPosB
namespace Go.Proofs.Ytlhljldlbcgnoaa.P
open Go.RowKit Go.Proofs.YtlhljldlbcgnoaaW.PrintWords Go.Proofs.YtlhljldlbcgnoaaW.PrintLast Go.Proofs.YtlhljldlbcgnoaaW.PrintMore
open Go.Maps (Keyed string_keyed)
open Go.Proofs.Ytlhljldlbcgnoaa.X

def posAll (l : List (List ByteArray)) : List ByteArray := Pos.fold [] l.flatten
def posOk (l : List (List ByteArray)) : Prop := l.length ≤ 1000 ∧ (∀ x ∈ l, x.length ≤ 1000 ∧ ∀ s ∈ x, s.size ≤ 9223372036854775807) ∧ (posAll l).length ≤ 60000
instance (l : List (List ByteArray)) : Decidable (posOk l) := by unfold posOk; infer_instance
def impl_POSIDs.f (l0 : List (List ByteArray)) : Option ((List (List Int)) × List ByteArray) :=
  if posOk l0 then some (l0.map (fun x => x.map (Pos.num (posAll l0))), (⟨#[]⟩ : ByteArray) :: posAll l0) else none

theorem S_grown_obj {α : Type} {d : Kd α} {e base r : Nat} {ok : Nat → Prop} {w w1 : World} {v : Value} {xs : List α} (h : Kd.S d e w base ok v xs) (hg : w.grownBy w1 (some r)) (hr : ∀ cells q, w.heap[r]? ≠ some (.cells cells q (0, 0))) : Kd.S d e w1 base ok v xs := by
  obtain ⟨f, h⟩ := h
  exact ⟨f, R_grown_obj h hg hr⟩
theorem PosMap.obj {w : World} {B : Nat} {names : List ByteArray} (h : PosMap w B names) : ∀ cells q, w.heap[B]? ≠ some (.cells cells q (0, 0)) := by
  obtain ⟨es, c, h⟩ := h.map_at
  intro cells q e
  rw [h] at e
  cases e
theorem PosMap.away {w : World} {B : Nat} {names : List ByteArray} (h : PosMap w B names) {v : Value} {e : Nat} (hty : ∀ k, v.ownBlock = some k → ∃ cells, w.heap[k]? = some (.cells cells e (0, 0))) : some B ≠ v.ownBlock := by
  intro e1
  obtain ⟨cells, hc⟩ := hty B e1.symm
  exact h.obj cells e hc
theorem PosMap.made (w : World) : PosMap (w.alloc (.map #[] 0)) w.heap.size [] :=
  ⟨.map [], World.ownsMap_made _ _ _ _, rfl, by simp, fun _ _ => rfl, fun i s h => by simp at h⟩
theorem flatten_take (l : List (List ByteArray)) (i : Nat) (h : i < l.length) : (l.take (i + 1)).flatten = (l.take i).flatten ++ l[i] := by
  rw [List.take_succ_eq_append_getElem h, List.flatten_append, List.flatten_singleton]
theorem fold_flat_pre (l : List (List ByteArray)) (i : Nat) : Pos.fold [] (l.take i).flatten <+: posAll l := by
  unfold posAll
  conv => rhs; rw [← List.take_append_drop i l, List.flatten_append, Pos.fold_append]
  exact Pos.fold_pre _ _
theorem rd_map (N : List ByteArray) (x : List ByteArray) (j : Nat) (h : j < x.length) : Go.Proofs.YtlhljldlbcgnoaaW.PrintWords.rd (x.map (Pos.num N)) (j : Int) = Pos.num N x[j] := by simp [Go.Proofs.YtlhljldlbcgnoaaW.PrintWords.rd, h]

set_option maxHeartbeats 4000000 in
theorem impl_POSIDs.calls (A0 : Option Addr) (c0 : Nat) (l0 : List (List ByteArray)) (r1 : List (List Int)) (r2 : List ByteArray) (w : World) (hr0 : Kd.C (Kd.slice 9 Kd.string) w A0 l0.length l0) (hc0 : l0.length ≤ c0) (h : impl_POSIDs.f l0 = some (r1, r2)) :
    Calls Try.prog 10 #[.slice A0 l0.length c0] w fun e w' => ∃ v0_ v1_ : Value, e = .returned (.tuple #[v0_, v1_]) ∧ Kd.S (Kd.slice 3 (Kd.int .i64)) 28 w' w.heap.size (fun _ => True) v0_ r1 ∧ Kd.R Kd.string 9 w' w.heap.size (fun _ => True) v1_ r2 ∧ Below w.heap.size w w' := by
  unfold impl_POSIDs.f at h
  split at h
  case isFalse => cases h
  rename_i hok
  obtain ⟨hl1, hl2, hl3⟩ := hok
  simp only [Option.some.injEq, Prod.mk.injEq] at h
  obtain ⟨rfl, rfl⟩ := h
  have HR := Aside0.mk hr0
  have HC := Aside0.mk hc0
  have HL1 := Aside0.mk hl1
  have HL2 := Aside0.mk hl2
  have HL3 := Aside0.mk hl3
  have hmm := @run_makeMap Try.prog
  clear hr0 hc0 hl1 hl2 hl3
  go_enter Try.func10, Try.ntmps10
  go_wp2
  go_loopw [5, 14] (fun v5 v14 wr => ∃ i : Nat, v14 = .int .i64 i ∧ Aside0 (i ≤ l0.length) ∧ Aside0 (Kd.S (Kd.slice 3 (Kd.int .i64)) 28 wr w.heap.size (fun _ => True) v5 ((l0.take i).map (fun x => x.map (Pos.num (posAll l0))))) ∧ Aside0 (PosMap wr w.heap.size (Pos.fold [] (l0.take i).flatten)) ∧ Aside0 (Below w.heap.size w wr)) (fun _ v14 _ => l0.length - (intOf v14).toNat)
  case atStart => exact ⟨0, rfl, ⟨Nat.zero_le _⟩, ⟨Kd.S_nil _ _ _ _ _⟩, ⟨PosMap.made w⟩, ⟨(Below.refl _ _).alloc (Nat.le_refl _) _⟩⟩
  case round =>
    obtain ⟨i, rfl, HI, HS, HM, HB⟩ := hrel
    have hxx := HL1.out
    by_cases hlt : i < l0.length
    · have hb1 : decide (i < l0.length) = true := decide_eq_true hlt
      have hb2 : decide ((i : Int) < (l0.length : Int)) = true := decide_eq_true (by omega)
      obtain ⟨ad, A1, c1, e1, hx1, hl1, hi1⟩ := at_L1 HR.out (i : Int) (by omega) (by omega)
      cases e1
      replace hx1 := (HB.out.cell (World.block_lt_of_cell? w _ hx1)).trans hx1
      have hrd : rd_L1 l0 (i : Int) = l0[i] := by simp [rd_L1, hlt]
      rw [hrd] at hx1 hl1 hi1
      simp only [Int.toNat_natCast] at hx1
      have hmem := List.getElem_mem hlt
      have hft := flatten_take l0 i hlt
      have hpre := fold_flat_pre l0 (i + 1)
      rw [hft, Pos.fold_append] at hpre
      have hxl := (HL2.out _ hmem).1
      have HK := Aside0.mk (pos_Add wr w.heap.size (Pos.fold [] (l0.take i).flatten) A1 c1 l0[i] HM.out (Kd.C_below hi1 HB.out) hl1 (HL2.out _ hmem).2 (Nat.le_trans hpre.length_le HL3.out) (by omega))
      have HN := Aside0.mk (show l0[i].map (Pos.num (Pos.fold (Pos.fold [] (l0.take i).flatten) l0[i])) = l0[i].map (Pos.num (posAll l0)) from List.map_congr_left fun s hs => (Pos.num_pre hpre (Pos.mem_fold hs)).symm)
      have HT := Aside0.mk (show (l0.take (i + 1)).map (fun x => x.map (Pos.num (posAll l0))) = (l0.take i).map (fun x => x.map (Pos.num (posAll l0))) ++ [l0[i].map (Pos.num (posAll l0))] by rw [List.take_succ_eq_append_getElem hlt, List.map_append, List.map_cons, List.map_nil])
      have HF := Aside0.mk (show Pos.fold [] (l0.take (i + 1)).flatten = Pos.fold (Pos.fold [] (l0.take i).flatten) l0[i] by rw [hft, Pos.fold_append])
      have HX1 := Aside0.mk hl1
      have HXL := Aside0.mk hxl
      clear hmem hft hpre hrd hi1 hl1 hxl
      generalize l0[i] = x at *
      have g1 : decide ((0 : Int) ≤ (i : Int)) = true := decide_eq_true (by omega)
      go_wp2_with fail
      refine HK.out.mono ?_
      rintro e w1 ⟨v, rfl, hr1, hm1, hg1⟩
      rw [HN.out] at hr1
      obtain ⟨A2, c2, e2⟩ := Kd.R_slice hr1
      subst e2
      have HQ := Aside0.mk (show ∀ j, j < (x.map (Pos.num (posAll l0))).length → 0 ≤ Go.Proofs.YtlhljldlbcgnoaaW.PrintWords.rd (x.map (Pos.num (posAll l0))) (j : Int) ∧ Go.Proofs.YtlhljldlbcgnoaaW.PrintWords.rd (x.map (Pos.num (posAll l0))) (j : Int) ≤ 60001 by
        intro j hj
        rw [List.length_map] at hj
        rw [rd_map _ _ _ hj]
        exact Pos.num_bound _ _ 60000 HL3.out)
      have HXL2 := Aside0.mk (show (x.map (Pos.num (posAll l0))).length ≤ 1000 by rw [List.length_map]; exact HXL.out)
      generalize x.map (Pos.num (posAll l0)) = ys at *
      have HRY := Aside0.mk (Kd.R_lower hr1 HB.out.size)
      have HSY := Aside0.mk (S_grown_obj HS.out hg1 HM.out.obj)
      have HBY := Aside0.mk (HB.out.grown hg1 HB.out.size (by intro k hk; injection hk with hk; omega))
      have HMY := Aside0.mk hm1
      clear hr1 hg1 hm1 hx1 HB HS HM HK HN
      go_wp2
      go_loopw [8, 22] (fun v8 v22 wq => ∃ j : Nat, v22 = .int .i64 j ∧ Aside0 (j ≤ ys.length) ∧ Aside0 (Kd.S (Kd.slice 3 (Kd.int .i64)) 28 wq w.heap.size (fun k => True ∧ some k ≠ (v8 : Value).ownBlock) u5 ((l0.take i).map (fun x => x.map (Pos.num (posAll l0))))) ∧ Aside0 (Kd.R (Kd.int .i64) 3 wq w.heap.size (fun _ => True) v8 (ys.take j)) ∧ Aside0 (Kd.R (Kd.int .u16) 41 wq w.heap.size (fun _ => True) (.slice A2 ys.length c2) ys) ∧ Aside0 (PosMap wq w.heap.size (Pos.fold (Pos.fold [] (l0.take i).flatten) x)) ∧ Aside0 (Below w.heap.size w wq)) (fun _ v22 _ => ys.length - (intOf v22).toNat)
      case atStart => exact ⟨0, rfl, ⟨Nat.zero_le _⟩, ⟨Kd.S_apart_nil HSY.out⟩, ⟨Kd.R_nil _ _ _ _ _⟩, HRY, HMY, HBY⟩
      case round =>
        clear HRY HSY HMY HBY
        obtain ⟨j, rfl, HJ, HS, HR8, HRY, HM, HB⟩ := hrel
        have hyy := HXL2.out
        by_cases hlj : j < ys.length
        · have hc1 : decide (j < ys.length) = true := decide_eq_true hlj
          have hc2 : decide ((j : Int) < (ys.length : Int)) = true := decide_eq_true (by omega)
          obtain ⟨ad2, e2, hy⟩ := Kd.at_int (Kd.R_reads' HRY.out).2.2 (j : Int) (by omega) (by omega)
          subst e2
          simp only [Int.toNat_natCast] at hy
          obtain ⟨hq0, hq1⟩ := HQ.out j hlj
          have HT2 := Aside0.mk (show ys.take (j + 1) = ys.take j ++ [Go.Proofs.YtlhljldlbcgnoaaW.PrintWords.rd ys (j : Int)] by rw [List.take_succ_eq_append_getElem hlj]; simp [Go.Proofs.YtlhljldlbcgnoaaW.PrintWords.rd, hlj])
          generalize Go.Proofs.YtlhljldlbcgnoaaW.PrintWords.rd ys (j : Int) = q at *
          have g2 : decide ((0 : Int) ≤ (j : Int)) = true := decide_eq_true (by omega)
          go_wp2_with (at_builtin; refine Kd.R_append (Kd.int .i64) (w0 := w) w.heap.size rfl (.tmp 26) (.tmp 29) 28 3 (.int .i64 0) 8 rfl Try.underlying28 info3 rfl (by decide) (by omega) u8 (ys.take j) q [.int .i64 q] (fun _ => True) (fun _ => False) rfl rfl ?aP (fun _ hk => hk.elim) ?aF ?aO ?aB ?aS ?aL ?_; (case aP => exact rfl); (case aF => exact fun _ _ => trivial); (case aO => exact HR8.out); (case aB => exact HB.out); (case aS => exact HB.out.size); (case aL => have := List.length_take_le j ys; omega); intro v1 w3 hr3 hb3 hg3 hat3; rw [← HT2.out] at hr3; have HR3 := Aside0.mk hr3; have HM3 := Aside0.mk (HM.out.kept hg3 (HM.out.away (Kd.R_typed HR8.out))); have HB3 := Aside0.mk hb3; have HS3 := Aside0.mk (Kd.S_after (ok := fun _ => True) HS.out hg3 hat3); have HY3 := Aside0.mk (Kd.R_over' HRY.out (Kd.R_typed HR8.out) (by decide) hg3); clear hr3 hg3 hat3 hb3 HRY HM HS HB HR8)
          go_roundw
          case rel => exact ⟨j + 1, by go_num, ⟨by omega⟩, HS3, HR3, HY3, HM3, HB3⟩
          case measure => simp [intOf]; omega
        · have hc1 : decide (j < ys.length) = false := decide_eq_false hlj
          have hc2 : decide ((j : Int) < (ys.length : Int)) = false := decide_eq_false (by omega)
          have hj : j = ys.length := by have := HJ.out; omega
          have ht : ys.take j = ys := by rw [hj, List.take_length]
          have h1 := HR8.out
          rw [ht] at h1
          have HR9 := Aside0.mk h1
          clear h1 ht hj HR8
          obtain ⟨A8, c8, e8⟩ := Kd.R_slice HR9.out
          subst e8
          go_wp2_with (at_builtin; refine Kd.S_append (Kd.slice 3 (Kd.int .i64)) (w0 := w) w.heap.size rfl (.tmp 32) (.tmp 34) 24 28 (.slice none 0 0) 24 rfl Try.underlying24 info28 rfl (by decide) (by omega) u5 ((l0.take i).map (fun x => x.map (Pos.num (posAll l0)))) ys [.slice A8 ys.length c8] (fun _ => True) (fun k_ => some k_ = (.slice A8 ys.length c8 : Value).ownBlock) rfl rfl ?aP (fun k_ hk_ => ((Kd.R_mono (ok' := fun k_ => ((fun _ => True)) k_ ∧ some k_ ≠ (u5 : Value).ownBlock) (Kd.R_apart' (HR9.out) (Kd.S_typed HS.out) (by decide)) (fun k_ hk => ⟨trivial, hk.2⟩))).1 k_ hk_.symm) ?aF ?aO ?aB ?aS ?aL ?_; (case aP => exact Kd.M_row (Kd.R_mono (Kd.R_tight rfl (Kd.R_mono (ok' := fun k_ => ((fun _ => True)) k_ ∧ some k_ ≠ (u5 : Value).ownBlock) (Kd.R_apart' (HR9.out) (Kd.S_typed HS.out) (by decide)) (fun k_ hk => ⟨trivial, hk.2⟩))) (fun _ h_ => h_))); (case aB => exact HB.out); (case aF => exact (fun _ _ => trivial)); (case aO => exact Kd.S_mono HS.out (fun k_ hk => ⟨trivial, fun e_ => hk.2 e_⟩)); (case aS => exact HB.out.size); (case aL => simp; omega); intro v1 w3 hs3 hb3 hg3 hat3; rw [← HT.out] at hs3; have HS3 := Aside0.mk hs3; have HM3 := Aside0.mk (HM.out.kept hg3 (HM.out.away (Kd.S_typed HS.out))); have HB3 := Aside0.mk hb3; clear hs3 hg3 hat3 hb3 HRY HM HS HB HR9)
          go_roundw
          case rel => exact ⟨i + 1, by go_num, ⟨by omega⟩, HS3, by rw [HF.out]; exact HM3, HB3⟩
          case measure => simp [intOf]; omega
    · have hb1 : decide (i < l0.length) = false := decide_eq_false hlt
      have hb2 : decide ((i : Int) < (l0.length : Int)) = false := decide_eq_false (by omega)
      have hi : i = l0.length := by have := HI.out; omega
      have ht : l0.take i = l0 := by rw [hi, List.take_length]
      have h1 := HS.out
      have h2 := HM.out
      rw [ht] at h1 h2
      have H1 := Aside0.mk h1
      have H2 := Aside0.mk h2
      clear h1 h2 ht hi
      go_wp2_with fail
      refine (pos_List wr w.heap.size (posAll l0) H2.out (Pos.nodup_fold (by simp)) HL3.out).mono ?_
      rintro e w2 ⟨v, rfl, hr, hb⟩
      have HR2 := Aside0.mk (Kd.R_lower hr HB.out.size)
      have HS2 := Aside0.mk (Kd.S_below H1.out hb)
      have HB2 := Aside0.mk (HB.out.trans (hb.mono HB.out.size))
      clear hr hb
      go_wp2
      go_ret2
      exact ⟨_, _, rfl, HS2.out, HR2.out, HB2.out⟩
end Go.Proofs.Ytlhljldlbcgnoaa.P
