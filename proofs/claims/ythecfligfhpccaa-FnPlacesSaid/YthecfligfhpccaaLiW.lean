/- bytes.LastIndex: the walk. -/
import Derived.Test.YthecfligfhpccaaLiPl
import Derived.Test.YthecfligfhpccaaMGn
import Derived.Deep.QuietTactic
set_option linter.unusedVariables false
namespace Go.Proofs.Ythecfligfhpccaa.Li
open Go.RowKit Go.Proofs.YthecfligfhpccaaW.PrintWords Go.Proofs.YthecfligfhpccaaW.PrintLast Go.Proofs.YthecfligfhpccaaW.PrintMore Go.Proofs.Ythecfligfhpccaa.P
theorem info5 : (Try.prog.info? 5).map (fun i => (i.zero, i.size, i.bytes)) = some (some (.int .u8 0), 1, 1) := by kernel_rfl
theorem win_snoc (s : List Int) (j n : Nat) (h1 : 1 ≤ n) (h : j + n < s.length) : (s.drop (j + 1)).take n = (s.drop (j + 1)).take (n - 1) ++ [s[j + n]] := by
  obtain ⟨m, rfl⟩ : ∃ m, n = m + 1 := ⟨n - 1, by omega⟩
  rw [List.take_succ_eq_append_getElem (by rw [List.length_drop]; omega), List.getElem_drop]
  simp only [Nat.add_sub_cancel]
  congr 2
  congr 1
  omega
theorem win_cons (s : List Int) (j n : Nat) (h1 : 1 ≤ n) (h : j + n < s.length) : (s.drop j).take n = s[j] :: (s.drop (j + 1)).take (n - 1) := by
  obtain ⟨m, rfl⟩ : ∃ m, n = m + 1 := ⟨n - 1, by omega⟩
  rw [List.drop_eq_getElem_cons (show j < s.length by omega)]
  rfl
set_option maxHeartbeats 2000000 in
set_option maxRecDepth 100000 in
theorem rk_calls (w : World) (A0 A1 : Option Addr) (c0 c1 : Nat) (s p : List Int) (hr0 : Kd.C (Kd.int .u8) w A0 s.length s) (hc0 : s.length ≤ c0) (hr1 : Kd.C (Kd.int .u8) w A1 p.length p) (hc1 : p.length ≤ c1)
    (hs : By s) (hp : By p) (h1 : 1 ≤ p.length) (h2 : p.length < s.length) (hl : s.length ≤ 2147483647) :
    Calls Try.prog 45 #[.slice A0 s.length c0, .slice A1 p.length c1] w fun e w' => e = .returned (.int .i64 (lastIx s p)) ∧ Drawn0 w w' := by
  obtain ⟨K, hK⟩ := hash_ev p hp (by omega)
  have hh := bytealg_hashStrRev_byte.calls K A1 c1 p _ _ w hr1 hc1 (hK K (Nat.le_refl _))
  obtain ⟨h0, HH0⟩ : ∃ h0, Aside0 (h0 = hx p % 4294967296) := ⟨_, ⟨rfl⟩⟩
  obtain ⟨q0, HQ0⟩ : ∃ q0, Aside0 (q0 = pw p.length % 4294967296) := ⟨_, ⟨rfl⟩⟩
  rw [← HH0.out, ← HQ0.out] at hh
  have HH := Aside0.mk hh
  have HR0 := Aside0.mk hr0
  have HR1 := Aside0.mk hr1
  have HC0 := Aside0.mk hc0
  have HC1 := Aside0.mk hc1
  have HS := Aside0.mk hs
  have HP := Aside0.mk hp
  obtain ⟨N, hN⟩ : ∃ N, N = s.length := ⟨_, rfl⟩
  obtain ⟨n, hn⟩ : ∃ n, n = p.length := ⟨_, rfl⟩
  have HN := Aside0.mk hN
  have Hn := Aside0.mk hn
  obtain ⟨L, hL⟩ : ∃ L, L = N - n := ⟨_, rfl⟩
  have hw1 : wrap64 ((N : Int) - (n : Int)) = (L : Int) := by unfold wrap64; omega
  have hw2 : wrap64 ((N : Int) - 1) = (N : Int) - 1 := by unfold wrap64; omega
  have HL : Aside0 (1 ≤ n ∧ n < N ∧ N ≤ 2147483647 ∧ L + n = N) := ⟨by omega, by omega, by omega, by omega⟩
  rw [← hn] at hh hr1
  rw [← hN] at hr0
  have HHn := Aside0.mk hh
  have HR0n := Aside0.mk hr0
  have HR1n := Aside0.mk hr1
  rw [← hN, ← hn]
  clear hK hh hr0 hr1 hc0 hc1 hs hp h1 h2 hl hN hn HH HR0 HR1 hL
  go_enter Try.func45, Try.ntmps45
  go_wp2_with (go_at_call 53; refine HHn.out.mono ?_; rintro e w1 ⟨rfl, hd1⟩; have HD1 := Aside0.mk hd1; clear hd1)
  go_loopw [9, 10] (fun v9 v10 wr => ∃ (i : Nat) (h : Int), v9 = .int .u32 h ∧ v10 = .int .i64 ((i : Int) - 1) ∧ Aside0 (L ≤ i ∧ i ≤ N) ∧ Aside0 (h = hx (s.drop i) % 4294967296) ∧ Aside0 (Drawn0 w wr)) (fun _ v10 _ => (intOf v10 + 1).toNat)
  case atStart => exact ⟨N, 0, by simp, by simp [hw2], ⟨by have := HL.out; omega, Nat.le_refl _⟩, ⟨by rw [HN.out, List.drop_length]; rfl⟩, HD1⟩
  case round =>
    obtain ⟨i, h, rfl, rfl, HI, HE, HD⟩ := hrel
    obtain ⟨m1, rfl⟩ := HD.out
    by_cases hlt : L < i
    · obtain ⟨j, rfl⟩ : ∃ j, i = j + 1 := ⟨i - 1, by omega⟩
      have e1 : ((j + 1 : Nat) : Int) - 1 = (j : Int) := by omega
      have hj : j < s.length := by have := HI.out.2; have := HN.out; omega
      obtain ⟨ad, ead, cad⟩ := Kd.at_int HR0n.out (j : Int) (by omega) (by have := HI.out.2; omega)
      rw [rd_at s j hj] at cad
      obtain ⟨x, hx1⟩ : ∃ x, x = s[j] := ⟨_, rfl⟩
      rw [← hx1, Int.toNat_natCast] at cad
      have hb := HS.out s[j] (List.getElem_mem _)
      rw [← hx1] at hb
      have K0 : Aside0 (L ≤ j) := ⟨by omega⟩
      have k1 : decide ((L : Int) ≤ (j : Int)) = true := decide_eq_true (by omega)
      have k1' : decide (L ≤ j) = true := decide_eq_true (by omega)
      have k2 : decide ((0 : Int) ≤ (j : Int)) = true := decide_eq_true (by omega)
      have k3 : decide ((j : Int) < (N : Int)) = true := decide_eq_true (by have := HI.out; omega)
      have k4 : (0 : Int) ≤ (j : Int) := by omega
      have k5 : (j : Int) < (N : Int) := by have := HI.out; omega
      have hm : x % 4294967296 = x := by omega
      have hw3 : wrap64 ((j : Int) - 1) = (j : Int) - 1 := by have := HL.out; have := HI.out; unfold wrap64; omega
      have HX := Aside0.mk hx1
      have HB := Aside0.mk hb
      clear hx1 hb hlt
      rw [e1]
      cases A0 with
      | none => cases ead
      | some ad' =>
      obtain rfl : ad' = ad := by injection ead
      clear ead
      go_wp2_with fail
      go_roundw
      case rel => exact ⟨j, _, rfl, by rw [hw3], ⟨K0.out, by have := HI.out; omega⟩, ⟨by
        have hd : s.drop j = s[j] :: s.drop (j + 1) := List.drop_eq_getElem_cons hj
        rw [hd, ← HX.out]
        simp only [hx]
        have := HE.out
        omega⟩, ⟨⟨m1, rfl⟩⟩⟩
      case measure => first | (simp [intOf]; done) | (simp [intOf]; omega)
    · have hi : i = L := by have := HI.out; omega
      subst hi
      have hLs : i ≤ s.length := by have := HI.out; have := HN.out; omega
      have k1 : decide ((i : Int) ≤ (i : Int) - 1) = false := decide_eq_false (by omega)
      have k2 : ((i : Int) ≤ (i : Int) - 1) = False := eq_false (by omega)
      have hseg : (s.drop i).length = n := by rw [List.length_drop]; have := HN.out; have := HL.out; omega
      have hat0 : at_ s p i = ((strOfNums (s.drop i)).toList == (strOfNums p).toList) := by
        rw [str_eq (HS.out.drop i) HP.out]
        unfold at_
        rw [List.take_of_length_le (by have := Hn.out; omega)]
      obtain ⟨i012, hi012, _, hsz12, _⟩ := info_parts info5
      obtain ⟨A12, hcut12, hA12, hC12⟩ := print_drop_of (P := Try.prog) (Value.int .u8) 0 46 5 .i64 Try.underlying46 hi012 hsz12 A0 c0 s (i : Int) (by omega) (by omega) HC0.out
      have hr2 := Kd.C_of_reads (h1 := fun _ => rfl) (hA12 _ (Kd.reads_of_C (by rw [HN.out] at HR0n; exact HR0n.out)))
      rw [Int.toNat_natCast, hseg] at hcut12 hr2
      have hcv1 := fun m : Nat => Kd.C_string (P := Try.prog) (c := (c0 - i)) Try.underlying46 Try.underlying5 Try.underlying9 (Kd.C_drewN hr2 m)
      have hcv2 := fun m : Nat => Kd.C_string (P := Try.prog) (c := c1) Try.underlying46 Try.underlying5 Try.underlying9 (Kd.C_drewN HR1n.out m)
      rw [← HN.out] at hcut12
      have hlast : lastIx s p = seek s p i := by
        unfold lastIx
        rw [if_neg (by have := HL.out; have := HN.out; have := Hn.out; omega), show s.length - p.length = i by have := HL.out; have := HN.out; have := Hn.out; omega]
      have hfin : ∀ m (w' : World), w' = w.drewN m → Drawn0 w w' := fun m _ e => ⟨m, e⟩
      have HLA := Aside0.mk hlast
      have HAT := Aside0.mk hat0
      have HHD := Aside0.mk hseg
      have k3 : (0 : Int) ≤ (i : Int) := by omega
      have k4 : (i : Int) ≤ (N : Int) := by have := HI.out; omega
      have hw4 : wrap64 ((i : Int) - 1) = (i : Int) - 1 := by have := HL.out; unfold wrap64; omega
      clear hA12 hC12 hi012 hsz12 hlast hat0 hseg hr2 hLs
      -- behind the first window
      have HNEXT : Aside0 (at_ s p i = false → lastIx s p = below s p i) := ⟨fun e => by
        rw [HLA.out]
        cases i with
        | zero => simp [seek, below, e]
        | succ i => simp [seek, below, e]⟩
      by_cases hgo : h = h0 ∧ at_ s p i = true
      · obtain ⟨heq, hy⟩ := hgo
        obtain rfl := heq.symm
        have hyes : ((strOfNums (s.drop i)).toList == (strOfNums p).toList) = true := by rw [← HAT.out]; exact hy
        have HY : Aside0 (lastIx s p = (i : Int)) := ⟨by rw [HLA.out, seek_yes hy]⟩
        clear hy
        go_wp2_with fail
        go_quiet (fail)
        go_wp2_with fail
        go_ret
        exact ⟨by simp [HY.out, hw1], (by first | exact ⟨_, rfl⟩ | exact ⟨_, World.drewN_drewN _ _ _⟩)⟩
      · have hno : at_ s p i = false := by
          by_cases e : at_ s p i = true
          · refine absurd ⟨?_, e⟩ hgo
            rw [HE.out, HH0.out]
            have : s.drop i = p := by
              unfold at_ at e
              rw [List.take_of_length_le (by have := Hn.out; have := HHD.out; omega)] at e
              exact beq_iff_eq.1 e
            rw [this]
          · simpa using e
        have hnos : ((strOfNums (s.drop i)).toList == (strOfNums p).toList) = false := by rw [← HAT.out]; exact hno
        have HNO : Aside0 (lastIx s p = below s p i) := ⟨HNEXT.out hno⟩
        have HE2 : Aside0 (h = hx ((s.drop i).take n) % 4294967296) := ⟨by rw [List.take_of_length_le (by have := HHD.out; omega)]; exact HE.out⟩
        clear hgo hno HE HNEXT HAT HLA
        rcases (show h = h0 ∨ h ≠ h0 from Classical.em _) with heq | heq
        · obtain rfl := heq.symm
          go_wp2_with fail
          go_quiet (fail)
          go_wp2_with fail
          clear hcut12 hcv1 hnos k3 k4
          go_loopw [9, 11] (fun v9 v11 wr => ∃ (j : Nat) (h : Int), v9 = .int .u32 h ∧ v11 = .int .i64 ((j : Int) - 1) ∧ Aside0 (j ≤ i) ∧ Aside0 (h = hx ((s.drop j).take n) % 4294967296) ∧ Aside0 (lastIx s p = below s p j) ∧ Aside0 (Drawn0 w wr)) (fun _ v11 _ => (intOf v11 + 1).toNat)
          case atStart => exact ⟨i, _, rfl, by rw [hw4], ⟨Nat.le_refl _⟩, HE2, HNO, ⟨(by first | exact ⟨_, rfl⟩ | exact ⟨_, World.drewN_drewN _ _ _⟩)⟩⟩
          case round =>
            clear HE2 HNO hw4
            obtain ⟨j, h, rfl, rfl, HJ, HE, HNO, HD⟩ := hrel
            obtain ⟨m2, rfl⟩ := HD.out
            cases j with
            | zero =>
              have HF : Aside0 (lastIx s p = -1) := ⟨HNO.out⟩
              go_wp2_with fail
              go_ret
              exact ⟨by simp [HF.out], (by first | exact ⟨_, rfl⟩ | exact ⟨_, World.drewN_drewN _ _ _⟩)⟩
            | succ j =>
              have hjn : j + n < s.length := by have := HJ.out; have := HL.out; have := HN.out; omega
              have hj : j < s.length := by omega
              have hw5 : wrap64 ((j : Int) + (n : Int)) = (j : Int) + (n : Int) := by have := HL.out; have := HN.out; unfold wrap64; omega
              have hw6 : wrap64 ((j : Int) - 1) = (j : Int) - 1 := by have := HL.out; have := HN.out; unfold wrap64; omega
              have e0 : ((j + 1 : Nat) : Int) - 1 = (j : Int) := by omega
              obtain ⟨ad, ead, cad⟩ := Kd.at_int HR0n.out (j : Int) (by omega) (by have := HN.out; omega)
              obtain ⟨ad2, ead2, cad2⟩ := Kd.at_int HR0n.out ((j : Int) + (n : Int)) (by omega) (by have := HN.out; omega)
              rw [rd_at s j hj] at cad
              rw [show ((j : Int) + (n : Int)) = ((j + n : Nat) : Int) by omega, rd_at s (j + n) hjn] at cad2
              obtain ⟨x, hx1⟩ : ∃ x, x = s[j] := ⟨_, rfl⟩
              obtain ⟨y, hy1⟩ : ∃ y, y = s[j + n] := ⟨_, rfl⟩
              rw [← hx1, Int.toNat_natCast] at cad
              rw [← hy1, Int.toNat_natCast] at cad2
              have hb := HS.out s[j] (List.getElem_mem _)
              have hb2 := HS.out s[j + n] (List.getElem_mem _)
              rw [← hx1] at hb
              rw [← hy1] at hb2
              obtain ⟨i012, hi012, _, hsz12, _⟩ := info_parts info5
              obtain ⟨A13, hcut13, hA13, hC13⟩ := print_mid_of (P := Try.prog) (Value.int .u8) 0 46 5 .i64 .i64 Try.underlying46 hi012 hsz12 A0 c0 s (j : Int) ((j : Int) + (n : Int)) (by omega) (by omega) (by omega) HC0.out
              have hr3 := Kd.C_of_reads (h1 := fun _ => rfl) (hA13 _ (Kd.reads_of_C (by rw [HN.out] at HR0n; exact HR0n.out)))
              have hseg : ((s.take (j + n)).drop j).length = n := by rw [List.length_drop, List.length_take]; omega
              have hsame : (s.take (j + n)).drop j = (s.drop j).take n := by rw [List.drop_take]; congr 1; omega
              rw [Int.toNat_natCast, show ((j : Int) + (n : Int)).toNat = j + n by omega, hseg] at hcut13 hr3
              rw [hsame] at hr3
              have hcv3 := fun m : Nat => Kd.C_string (P := Try.prog) (c := (c0 - j)) Try.underlying46 Try.underlying5 Try.underlying9 (Kd.C_drewN hr3 m)
              rw [← HN.out] at hcut13
              have hat : at_ s p j = ((strOfNums ((s.drop j).take n)).toList == (strOfNums p).toList) := by
                rw [str_eq ((HS.out.drop j).take n) HP.out]
                unfold at_
                rw [Hn.out]
              have HAT := Aside0.mk hat
              have k1 : decide ((0 : Int) ≤ (j : Int)) = true := decide_eq_true (by omega)
              have k3 : (0 : Int) ≤ (j : Int) := by omega
              have k4 : (j : Int) < (N : Int) := by have := HN.out; omega
              have k5 : (0 : Int) ≤ (j : Int) + (n : Int) := by omega
              have k6 : (j : Int) + (n : Int) < (N : Int) := by have := HN.out; omega
              have k7 : (j : Int) + (n : Int) ≤ (N : Int) := by omega
              have k8 : (j : Int) ≤ (j : Int) + (n : Int) := by omega
              have hto : ((j : Int) + (n : Int)).toNat = j + n := by omega
              have HNX : Aside0 (at_ s p j = false → lastIx s p = below s p j) := ⟨fun e => by
                rw [HNO.out]
                cases j with
                | zero => simp [seek, below, e]
                | succ j => simp [seek, below, e]⟩
              have HYX : Aside0 (at_ s p j = true → lastIx s p = (j : Int)) := ⟨fun e => by rw [HNO.out]; exact seek_yes e⟩
              have HJ2 : Aside0 (j ≤ i) := ⟨by have := HJ.out; omega⟩
              cases A0 with
              | none => cases ead
              | some ad' =>
              obtain rfl : ad' = ad := by injection ead
              obtain rfl : ad' = ad2 := by injection ead2
              have hm : x % 4294967296 = x := by omega
              have hm2 : y % 4294967296 = y := by omega
              obtain ⟨a1, e1⟩ : ∃ a1, h * 16777619 % 4294967296 = a1 := ⟨_, rfl⟩
              obtain ⟨a2, e2⟩ : ∃ a2, (a1 + x) % 4294967296 = a2 := ⟨_, rfl⟩
              obtain ⟨a3, e3⟩ : ∃ a3, q0 * y % 4294967296 = a3 := ⟨_, rfl⟩
              obtain ⟨h', e4⟩ : ∃ h', (a2 - a3) % 4294967296 = h' := ⟨_, rfl⟩
              have HE2 : Aside0 (h' = hx ((s.drop j).take n) % 4294967296) := ⟨by
                have hr := roll x y h q0 ((s.drop (j + 1)).take (n - 1)) n (by rw [List.length_take, List.length_drop]; have := HL.out; omega) (by rw [HE.out, win_snoc s j n (by have := HL.out; omega) hjn, hy1]) (by rw [HQ0.out, ← Hn.out]) hb2 hb
                rw [hm, hm2, e1, e2, e3, e4] at hr
                rw [hr, win_cons s j n (by have := HL.out; omega) hjn, hx1]⟩
              clear ead ead2 hA13 hC13 hi012 hsz12 hr3 hseg hsame hat hx1 hy1 hb hb2 hj hjn HNO HE HJ
              rw [e0]
              by_cases hgo : h' = h0 ∧ at_ s p j = true
              · obtain ⟨rfl, hy⟩ := hgo
                have hyes : ((strOfNums ((s.drop j).take n)).toList == (strOfNums p).toList) = true := by rw [← HAT.out]; exact hy
                have HY : Aside0 (lastIx s p = (j : Int)) := ⟨HYX.out hy⟩
                clear hy
                go_wp2_with fail
                go_quiet (fail)
                go_wp2_with fail
                go_ret
                exact ⟨by simp [HY.out, hw1], (by first | exact ⟨_, rfl⟩ | exact ⟨_, World.drewN_drewN _ _ _⟩)⟩
              · have hno : at_ s p j = false := by
                  by_cases e : at_ s p j = true
                  · refine absurd ⟨?_, e⟩ hgo
                    rw [HE2.out, HH0.out]
                    have : (s.drop j).take n = p := by
                      unfold at_ at e
                      rw [← Hn.out] at e
                      exact beq_iff_eq.1 e
                    rw [this]
                  · simpa using e
                have hnos : ((strOfNums ((s.drop j).take n)).toList == (strOfNums p).toList) = false := by rw [← HAT.out]; exact hno
                have HNO : Aside0 (lastIx s p = below s p j) := ⟨HNX.out hno⟩
                clear hgo hno HNX HYX HAT
                rcases (show h' = h0 ∨ h' ≠ h0 from Classical.em _) with heq2 | heq2
                all_goals first | (have kne2 : (h' == h0) = true := beq_iff_eq.2 heq2; have kne3 : (h' = h0) = True := eq_true heq2; clear heq2) | (have kne2 : (h' == h0) = false := beq_eq_false_iff_ne.2 heq2; have kne3 : (h' = h0) = False := eq_false heq2; clear heq2)
                all_goals go_wp2_with fail
                all_goals go_quiet (fail)
                all_goals go_wp2_with fail
                all_goals go_roundw
                all_goals first | exact ⟨j, _, rfl, by rw [hw6], HJ2, HE2, HNO, ⟨by first | exact ⟨_, rfl⟩ | exact ⟨_, World.drewN_drewN _ _ _⟩⟩⟩ | exact ⟨j, _, rfl, by rw [hw6], HJ2, ⟨by rw [e4]; exact HE2.out⟩, HNO, ⟨by first | exact ⟨_, rfl⟩ | exact ⟨_, World.drewN_drewN _ _ _⟩⟩⟩ | (clear e1 e2 e3 e4 hm hm2; rw [hw6]; simp [intOf]; done) | (clear e1 e2 e3 e4 hm hm2; rw [hw6]; simp [intOf]; omega)
        · have kne : (h == h0) = false := beq_eq_false_iff_ne.2 heq
          go_wp2_with fail
          go_quiet (fail)
          go_wp2_with fail
          clear hcut12 hcv1 hnos k3 k4
          go_loopw [9, 11] (fun v9 v11 wr => ∃ (j : Nat) (h : Int), v9 = .int .u32 h ∧ v11 = .int .i64 ((j : Int) - 1) ∧ Aside0 (j ≤ i) ∧ Aside0 (h = hx ((s.drop j).take n) % 4294967296) ∧ Aside0 (lastIx s p = below s p j) ∧ Aside0 (Drawn0 w wr)) (fun _ v11 _ => (intOf v11 + 1).toNat)
          case atStart => exact ⟨i, _, rfl, by rw [hw4], ⟨Nat.le_refl _⟩, HE2, HNO, ⟨(by first | exact ⟨_, rfl⟩ | exact ⟨_, World.drewN_drewN _ _ _⟩)⟩⟩
          case round =>
            clear HE2 HNO hw4
            obtain ⟨j, h, rfl, rfl, HJ, HE, HNO, HD⟩ := hrel
            obtain ⟨m2, rfl⟩ := HD.out
            cases j with
            | zero =>
              have HF : Aside0 (lastIx s p = -1) := ⟨HNO.out⟩
              go_wp2_with fail
              go_ret
              exact ⟨by simp [HF.out], (by first | exact ⟨_, rfl⟩ | exact ⟨_, World.drewN_drewN _ _ _⟩)⟩
            | succ j =>
              have hjn : j + n < s.length := by have := HJ.out; have := HL.out; have := HN.out; omega
              have hj : j < s.length := by omega
              have hw5 : wrap64 ((j : Int) + (n : Int)) = (j : Int) + (n : Int) := by have := HL.out; have := HN.out; unfold wrap64; omega
              have hw6 : wrap64 ((j : Int) - 1) = (j : Int) - 1 := by have := HL.out; have := HN.out; unfold wrap64; omega
              have e0 : ((j + 1 : Nat) : Int) - 1 = (j : Int) := by omega
              obtain ⟨ad, ead, cad⟩ := Kd.at_int HR0n.out (j : Int) (by omega) (by have := HN.out; omega)
              obtain ⟨ad2, ead2, cad2⟩ := Kd.at_int HR0n.out ((j : Int) + (n : Int)) (by omega) (by have := HN.out; omega)
              rw [rd_at s j hj] at cad
              rw [show ((j : Int) + (n : Int)) = ((j + n : Nat) : Int) by omega, rd_at s (j + n) hjn] at cad2
              obtain ⟨x, hx1⟩ : ∃ x, x = s[j] := ⟨_, rfl⟩
              obtain ⟨y, hy1⟩ : ∃ y, y = s[j + n] := ⟨_, rfl⟩
              rw [← hx1, Int.toNat_natCast] at cad
              rw [← hy1, Int.toNat_natCast] at cad2
              have hb := HS.out s[j] (List.getElem_mem _)
              have hb2 := HS.out s[j + n] (List.getElem_mem _)
              rw [← hx1] at hb
              rw [← hy1] at hb2
              obtain ⟨i012, hi012, _, hsz12, _⟩ := info_parts info5
              obtain ⟨A13, hcut13, hA13, hC13⟩ := print_mid_of (P := Try.prog) (Value.int .u8) 0 46 5 .i64 .i64 Try.underlying46 hi012 hsz12 A0 c0 s (j : Int) ((j : Int) + (n : Int)) (by omega) (by omega) (by omega) HC0.out
              have hr3 := Kd.C_of_reads (h1 := fun _ => rfl) (hA13 _ (Kd.reads_of_C (by rw [HN.out] at HR0n; exact HR0n.out)))
              have hseg : ((s.take (j + n)).drop j).length = n := by rw [List.length_drop, List.length_take]; omega
              have hsame : (s.take (j + n)).drop j = (s.drop j).take n := by rw [List.drop_take]; congr 1; omega
              rw [Int.toNat_natCast, show ((j : Int) + (n : Int)).toNat = j + n by omega, hseg] at hcut13 hr3
              rw [hsame] at hr3
              have hcv3 := fun m : Nat => Kd.C_string (P := Try.prog) (c := (c0 - j)) Try.underlying46 Try.underlying5 Try.underlying9 (Kd.C_drewN hr3 m)
              rw [← HN.out] at hcut13
              have hat : at_ s p j = ((strOfNums ((s.drop j).take n)).toList == (strOfNums p).toList) := by
                rw [str_eq ((HS.out.drop j).take n) HP.out]
                unfold at_
                rw [Hn.out]
              have HAT := Aside0.mk hat
              have k1 : decide ((0 : Int) ≤ (j : Int)) = true := decide_eq_true (by omega)
              have k3 : (0 : Int) ≤ (j : Int) := by omega
              have k4 : (j : Int) < (N : Int) := by have := HN.out; omega
              have k5 : (0 : Int) ≤ (j : Int) + (n : Int) := by omega
              have k6 : (j : Int) + (n : Int) < (N : Int) := by have := HN.out; omega
              have k7 : (j : Int) + (n : Int) ≤ (N : Int) := by omega
              have k8 : (j : Int) ≤ (j : Int) + (n : Int) := by omega
              have hto : ((j : Int) + (n : Int)).toNat = j + n := by omega
              have HNX : Aside0 (at_ s p j = false → lastIx s p = below s p j) := ⟨fun e => by
                rw [HNO.out]
                cases j with
                | zero => simp [seek, below, e]
                | succ j => simp [seek, below, e]⟩
              have HYX : Aside0 (at_ s p j = true → lastIx s p = (j : Int)) := ⟨fun e => by rw [HNO.out]; exact seek_yes e⟩
              have HJ2 : Aside0 (j ≤ i) := ⟨by have := HJ.out; omega⟩
              cases A0 with
              | none => cases ead
              | some ad' =>
              obtain rfl : ad' = ad := by injection ead
              obtain rfl : ad' = ad2 := by injection ead2
              have hm : x % 4294967296 = x := by omega
              have hm2 : y % 4294967296 = y := by omega
              obtain ⟨a1, e1⟩ : ∃ a1, h * 16777619 % 4294967296 = a1 := ⟨_, rfl⟩
              obtain ⟨a2, e2⟩ : ∃ a2, (a1 + x) % 4294967296 = a2 := ⟨_, rfl⟩
              obtain ⟨a3, e3⟩ : ∃ a3, q0 * y % 4294967296 = a3 := ⟨_, rfl⟩
              obtain ⟨h', e4⟩ : ∃ h', (a2 - a3) % 4294967296 = h' := ⟨_, rfl⟩
              have HE2 : Aside0 (h' = hx ((s.drop j).take n) % 4294967296) := ⟨by
                have hr := roll x y h q0 ((s.drop (j + 1)).take (n - 1)) n (by rw [List.length_take, List.length_drop]; have := HL.out; omega) (by rw [HE.out, win_snoc s j n (by have := HL.out; omega) hjn, hy1]) (by rw [HQ0.out, ← Hn.out]) hb2 hb
                rw [hm, hm2, e1, e2, e3, e4] at hr
                rw [hr, win_cons s j n (by have := HL.out; omega) hjn, hx1]⟩
              clear ead ead2 hA13 hC13 hi012 hsz12 hr3 hseg hsame hat hx1 hy1 hb hb2 hj hjn HNO HE HJ
              rw [e0]
              by_cases hgo : h' = h0 ∧ at_ s p j = true
              · obtain ⟨rfl, hy⟩ := hgo
                have hyes : ((strOfNums ((s.drop j).take n)).toList == (strOfNums p).toList) = true := by rw [← HAT.out]; exact hy
                have HY : Aside0 (lastIx s p = (j : Int)) := ⟨HYX.out hy⟩
                clear hy
                go_wp2_with fail
                go_quiet (fail)
                go_wp2_with fail
                go_ret
                exact ⟨by simp [HY.out, hw1], (by first | exact ⟨_, rfl⟩ | exact ⟨_, World.drewN_drewN _ _ _⟩)⟩
              · have hno : at_ s p j = false := by
                  by_cases e : at_ s p j = true
                  · refine absurd ⟨?_, e⟩ hgo
                    rw [HE2.out, HH0.out]
                    have : (s.drop j).take n = p := by
                      unfold at_ at e
                      rw [← Hn.out] at e
                      exact beq_iff_eq.1 e
                    rw [this]
                  · simpa using e
                have hnos : ((strOfNums ((s.drop j).take n)).toList == (strOfNums p).toList) = false := by rw [← HAT.out]; exact hno
                have HNO : Aside0 (lastIx s p = below s p j) := ⟨HNX.out hno⟩
                clear hgo hno HNX HYX HAT
                rcases (show h' = h0 ∨ h' ≠ h0 from Classical.em _) with heq2 | heq2
                all_goals first | (have kne2 : (h' == h0) = true := beq_iff_eq.2 heq2; have kne3 : (h' = h0) = True := eq_true heq2; clear heq2) | (have kne2 : (h' == h0) = false := beq_eq_false_iff_ne.2 heq2; have kne3 : (h' = h0) = False := eq_false heq2; clear heq2)
                all_goals go_wp2_with fail
                all_goals go_quiet (fail)
                all_goals go_wp2_with fail
                all_goals go_roundw
                all_goals first | exact ⟨j, _, rfl, by rw [hw6], HJ2, HE2, HNO, ⟨by first | exact ⟨_, rfl⟩ | exact ⟨_, World.drewN_drewN _ _ _⟩⟩⟩ | exact ⟨j, _, rfl, by rw [hw6], HJ2, ⟨by rw [e4]; exact HE2.out⟩, HNO, ⟨by first | exact ⟨_, rfl⟩ | exact ⟨_, World.drewN_drewN _ _ _⟩⟩⟩ | (clear e1 e2 e3 e4 hm hm2; rw [hw6]; simp [intOf]; done) | (clear e1 e2 e3 e4 hm hm2; rw [hw6]; simp [intOf]; omega)
/-- bytes.LastIndex: the last place of p in s. -/
theorem li_calls (w : World) (A0 A1 : Option Addr) (c0 c1 : Nat) (s p : List Int) (hr0 : Kd.C (Kd.int .u8) w A0 s.length s) (hc0 : s.length ≤ c0) (hr1 : Kd.C (Kd.int .u8) w A1 p.length p) (hc1 : p.length ≤ c1)
    (hs : By s) (hp : By p) (h1 : 1 ≤ p.length) (hl : s.length ≤ 2147483647) (hl2 : p.length ≤ 2147483647) :
    Calls Try.prog 35 #[.slice A0 s.length c0, .slice A1 p.length c1] w fun e w' => e = .returned (.int .i64 (lastIx s p)) ∧ Drawn0 w w' := by
  have HR0 := Aside0.mk hr0
  have HR1 := Aside0.mk hr1
  have HC0 := Aside0.mk hc0
  have HC1 := Aside0.mk hc1
  have HS := Aside0.mk hs
  have HP := Aside0.mk hp
  obtain ⟨N, hN⟩ : ∃ N, N = s.length := ⟨_, rfl⟩
  obtain ⟨n, hn⟩ : ∃ n, n = p.length := ⟨_, rfl⟩
  have HN := Aside0.mk hN
  have Hn := Aside0.mk hn
  have HH1 := Aside0.mk h1
  have HL := Aside0.mk hl
  have k0 : ((n : Int) == 0) = false := beq_eq_false_iff_ne.2 (by omega)
  have k0' : (n == 0) = false := beq_eq_false_iff_ne.2 (by omega)
  rcases (show n = 1 ∨ (n ≠ 1 ∧ n = N) ∨ (n ≠ 1 ∧ n ≠ N ∧ N < n) ∨ (n ≠ 1 ∧ n ≠ N ∧ ¬ N < n ∧ n < N) by omega) with c | ⟨c, c2⟩ | ⟨c, c2, c3⟩ | ⟨c, c2, c3, c4⟩
  · obtain ⟨b, rfl⟩ : ∃ b, p = [b] := by
      cases p with
      | nil => simp at hn; omega
      | cons b t => cases t with
        | nil => exact ⟨b, rfl⟩
        | cons _ _ => simp at hn; omega
    obtain ⟨K, hK⟩ := byte_ev s b hl
    have hh := bytealg_LastIndexByte.calls K A0 c0 s b _ w hr0 hc0 (hK K (Nat.le_refl _))
    have HH := Aside0.mk hh
    obtain ⟨ad, ead, cad⟩ := Kd.at_int HR1.out 0 (by omega) (by simp)
    rw [show ([b] : List Int).length = 1 from rfl] at *
    cases A1 with
    | none => cases ead
    | some ad' =>
    obtain rfl : ad' = ad := by injection ead
    have cad2 : w.cell? ad' = some (.int .u8 b) := by
      have : ad'.add (0 : Int).toNat = ad' := by unfold Addr.add; cases ad' with | mk x y z => cases z <;> simp
      rw [this] at cad
      simpa [Go.Proofs.YthecfligfhpccaaW.PrintWords.rd] using cad
    clear hh hr0 hr1 hc0 hc1 hs hp h1 hl hl2 hN hn ead cad c k0 k0'
    go_enter Try.func35, Try.ntmps35
    go_wp2_with (go_at_call 43; refine HH.out.mono ?_; rintro e w1 ⟨rfl, hd1⟩; have HD1 := Aside0.mk hd1; clear hd1)
    go_ret
    exact ⟨rfl, HD1.out⟩
  · have hh := bytes_Equal.calls A0 c0 s A1 c1 p _ w hr0 hc0 hr1 hc1 rfl
    rw [str_eq hs hp] at hh
    have k1 : ((n : Int) == 1) = false := beq_eq_false_iff_ne.2 (by omega)
    have k1' : (n == 1) = false := beq_eq_false_iff_ne.2 c
    have hlast : lastIx s p = if (s == p) = true then 0 else -1 := by
      unfold lastIx
      rw [if_neg (by omega), show s.length - p.length = 0 by omega]
      unfold seek at_
      rw [List.drop_zero, List.take_of_length_le (by omega)]
    have kN : ((N : Int) == 0) = false := beq_eq_false_iff_ne.2 (by omega)
    have kN' : (N == 0) = false := beq_eq_false_iff_ne.2 (by omega)
    have kM : ((N : Int) == 1) = false := beq_eq_false_iff_ne.2 (by omega)
    have kM' : (N == 1) = false := beq_eq_false_iff_ne.2 (by omega)
    rw [← hN, ← hn, c2] at hh
    rw [← hN, ← hn, c2]
    obtain ⟨q, hq⟩ : ∃ q, (s == p) = q := ⟨_, rfl⟩
    rw [hq] at hlast hh
    have HLA := Aside0.mk hlast
    have HH := Aside0.mk hh
    clear hh hr0 hr1 hc0 hc1 hs hp h1 hl hl2 hN hn c hlast hq k0 k0' k1 k1' c2
    cases q with
    | true =>
      go_enter Try.func35, Try.ntmps35
      go_wp2_with (go_at_call 44; refine HH.out.mono ?_; rintro e w1 ⟨rfl, hd1⟩; have HD1 := Aside0.mk hd1; clear hd1)
      go_ret
      exact ⟨by rw [HLA.out]; rfl, HD1.out⟩
    | false =>
      go_enter Try.func35, Try.ntmps35
      go_wp2_with (go_at_call 44; refine HH.out.mono ?_; rintro e w1 ⟨rfl, hd1⟩; have HD1 := Aside0.mk hd1; clear hd1)
      go_ret
      exact ⟨by rw [HLA.out]; rfl, HD1.out⟩
  · have k1 : ((n : Int) == 1) = false := beq_eq_false_iff_ne.2 (by omega)
    have k1' : (n == 1) = false := beq_eq_false_iff_ne.2 c
    have k2 : ((n : Int) == (N : Int)) = false := beq_eq_false_iff_ne.2 (by omega)
    have k2' : (n == N) = false := beq_eq_false_iff_ne.2 c2
    have k3 : decide (N < n) = true := decide_eq_true c3
    have k3' : decide ((N : Int) < (n : Int)) = true := decide_eq_true (by omega)
    have hlast : lastIx s p = -1 := by unfold lastIx; rw [if_pos (by omega)]
    have HLA := Aside0.mk hlast
    rw [← hN, ← hn]
    clear hr0 hr1 hc0 hc1 hs hp h1 hl hl2 hN hn hlast
    go_enter Try.func35, Try.ntmps35
    go_wp2_with fail
    go_ret
    exact ⟨by simp [HLA.out], ⟨0, rfl⟩⟩
  · have hh := rk_calls w A0 A1 c0 c1 s p hr0 hc0 hr1 hc1 hs hp h1 (by omega) hl
    have k1 : ((n : Int) == 1) = false := beq_eq_false_iff_ne.2 (by omega)
    have k1' : (n == 1) = false := beq_eq_false_iff_ne.2 c
    have k2 : ((n : Int) == (N : Int)) = false := beq_eq_false_iff_ne.2 (by omega)
    have k2' : (n == N) = false := beq_eq_false_iff_ne.2 c2
    have k3 : decide (N < n) = false := decide_eq_false c3
    have k3' : decide ((N : Int) < (n : Int)) = false := decide_eq_false (by omega)
    rw [← hN, ← hn] at hh
    have HH := Aside0.mk hh
    rw [← hN, ← hn]
    clear hh hr0 hr1 hc0 hc1 hs hp h1 hl hl2 hN hn
    go_enter Try.func35, Try.ntmps35
    go_wp2_with (go_at_call 45; refine HH.out.mono ?_; rintro e w1 ⟨rfl, hd1⟩; have HD1 := Aside0.mk hd1; clear hd1)
    go_ret
    exact ⟨rfl, HD1.out⟩
end Go.Proofs.Ythecfligfhpccaa.Li
