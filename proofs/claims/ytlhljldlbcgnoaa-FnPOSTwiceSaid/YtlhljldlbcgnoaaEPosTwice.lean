/- Names that come again have the numbers that they have: the law's walk, for every list of lists of names. No condition. -/
import Derived.Test.YtlhljldlbcgnoaaPosPl
import Derived.Test.YtlhljldlbcgnoaaXLaws
import Derived.Deep.QuietTactic
import Derived.BigQuiet
set_option linter.unusedVariables false
namespace Go.Proofs.Ytlhljldlbcgnoaa.P
open Go.RowKit Go.Proofs.YtlhljldlbcgnoaaW.PrintWords Go.Proofs.YtlhljldlbcgnoaaW.PrintLast Go.Proofs.YtlhljldlbcgnoaaW.PrintMore Go.Proofs.Ytlhljldlbcgnoaa.X

def laws_FnPOSTwice.f (l0 : List (List ByteArray)) : Option Bool := some true

theorem two_ok : posOk [[(⟨#[120]⟩ : ByteArray)], [(⟨#[120]⟩ : ByteArray)]] := by
  refine ⟨by simp, ?_, by decide⟩
  intro x hx
  simp at hx
  subst hx
  exact ⟨by simp, by intro s hs; simp at hs; subst hs; decide⟩
theorem two_f : impl_POSIDs.f [[(⟨#[120]⟩ : ByteArray)], [(⟨#[120]⟩ : ByteArray)]] = some ([[1], [1]], [⟨#[]⟩, ⟨#[120]⟩]) := by
  rw [posIds_f _ two_ok]
  exact congrArg some (Prod.ext (by decide) (by decide))
theorem below_up {w a b : World} (h : Below w.heap.size w a) (h2 : Below a.heap.size a b) : Below w.heap.size w b := h.trans (h2.mono h.size)

theorem fold_in {names x : List ByteArray} (h : ∀ s ∈ x, s ∈ names) : Pos.fold names x = names := by
  induction x with
  | nil => rfl
  | cons s x ih =>
    have : Pos.step names s = names := Pos.num_old (h s (by simp))
    show Pos.fold (Pos.step names s) x = names
    rw [this]
    exact ih (fun t ht => h t (List.mem_cons_of_mem _ ht))
theorem posAll_twice (l : List (List ByteArray)) : posAll (l ++ l) = posAll l := by
  unfold posAll
  rw [List.flatten_append, Pos.fold_append]
  exact fold_in (fun s hs => Pos.mem_fold hs)
theorem posOk_twice (l : List (List ByteArray)) (h : posOk l) (hl : l.length ≤ 10) : posOk (l ++ l) := by
  refine ⟨by simp; omega, fun x hx => ?_, by rw [posAll_twice]; exact h.2.2⟩
  rcases List.mem_append.1 hx with hx | hx
  · exact h.2.1 x hx
  · exact h.2.1 x hx
theorem three_alloc (w : World) (o1 o2 o3 : Obj) : (((w.alloc o1).alloc o2).alloc o3).heap[w.heap.size]? = some o1 ∧ (((w.alloc o1).alloc o2).alloc o3).heap[w.heap.size + 1]? = some o2 ∧ (((w.alloc o1).alloc o2).alloc o3).heap[w.heap.size + 1 + 1]? = some o3 ∧ Below w.heap.size w (((w.alloc o1).alloc o2).alloc o3) := by
  have s1 : (w.alloc o1).heap.size = w.heap.size + 1 := by simp
  have s2 : ((w.alloc o1).alloc o2).heap.size = w.heap.size + 1 + 1 := by simp
  refine ⟨?_, ?_, ?_, (((Below.refl _ _).alloc (Nat.le_refl _) _).alloc (by simp) _).alloc (by omega) _⟩
  · rw [heap_old _ (by omega), heap_old _ (by omega)]; exact heap_new w o1
  · rw [heap_old _ (by omega), ← s1]; exact heap_new _ o2
  · rw [← s2]; exact heap_new _ o3
theorem two_C {W : World} {b : Nat} {s : ByteArray} {c1 c2 : Nat} (h0 : W.heap[b]? = some (.cells #[.slice (some ⟨c1, 0, none⟩) 1 1, .slice (some ⟨c2, 0, none⟩) 1 1] 25 (0, 0))) (h1 : W.heap[c1]? = some (.cells #[.string s] 9 (0, 0))) (h2 : W.heap[c2]? = some (.cells #[.string s] 9 (0, 0))) : (Kd.slice 9 Kd.string).C W (some ⟨b, 0, none⟩) 2 [[s], [s]] := by
  have hs : ∀ c, W.heap[c]? = some (.cells #[.string s] 9 (0, 0)) → (Kd.slice 9 Kd.string).K W [s] [.slice (some ⟨c, 0, none⟩) 1 1] := fun c hc =>
    ⟨_, _, rfl, Nat.le_refl _, C_block (xs := [s]) hc ⟨rfl, fun j p hj => by
      cases j with
      | zero => have : s = p := by simpa using hj
                subst this; rfl
      | succ j => simp at hj⟩ (by simp)⟩
  refine C_block (xs := [[s], [s]]) h0 ⟨rfl, fun j p hj => ?_⟩ (by simp)
  match j, hj with
  | 0, hj => have : [s] = p := by simpa using hj
             subst this; exact hs c1 h1
  | 1, hj => have : [s] = p := by simpa using hj
             subst this; exact hs c2 h2
  | j + 2, hj => simp at hj

def idsOf (l : List (List ByteArray)) : List (List Int) := l.map (fun x => x.map (Pos.num (posAll l)))
theorem idsOf_length (l : List (List ByteArray)) : (idsOf l).length = l.length := by simp [idsOf]
theorem twice_f (l : List (List ByteArray)) (h : posOk l) (hl : l.length ≤ 10) : impl_POSIDs.f ([] ++ l ++ l) = some (idsOf l ++ idsOf l, (⟨#[]⟩ : ByteArray) :: posAll l) := by
  rw [List.nil_append, posIds_f _ (posOk_twice l h hl), posAll_twice, List.map_append]
  rfl
theorem ids_row (l : List (List ByteArray)) (h : posOk l) (x : List Int) (hx : x ∈ idsOf l) : x.length ≤ 1000 := by
  obtain ⟨y, hy, rfl⟩ := List.mem_map.1 hx
  rw [List.length_map]
  exact (h.2.1 y hy).1

theorem rd_left (a : List (List Int)) (i : Nat) (h : i < a.length) : rd_L4 (a ++ a) (i : Int) = rd_L4 a (i : Int) := by
  rw [rd_L4_nat _ _ h, rd_L4_nat _ _ (by rw [List.length_append]; omega), List.getElem_append_left h]
theorem rd_right (a : List (List Int)) (i : Nat) (h : i < a.length) : rd_L4 (a ++ a) ((i : Int) + (a.length : Int)) = rd_L4 a (i : Int) := by
  have e : ((i : Int) + (a.length : Int)) = ((i + a.length : Nat) : Int) := by omega
  rw [e, rd_L4_nat _ _ h, rd_L4_nat _ _ (by rw [List.length_append]; omega), List.getElem_append_right (by omega)]
  simp
theorem rd_memI (a : List (List Int)) (i : Nat) (h : i < a.length) : rd_L4 a (i : Int) ∈ a := by
  simp [rd_L4, h]

set_option maxHeartbeats 8000000 in
set_option maxRecDepth 100000 in
theorem laws_FnPOSTwice.calls (A0 : Option Addr) (c0 : Nat) (l0 : List (List ByteArray)) (r : Bool) (w : World) (hr0 : Kd.C (Kd.slice 9 Kd.string) w A0 l0.length l0) (hc0 : l0.length ≤ c0) (h : laws_FnPOSTwice.f l0 = some r) :
    Calls Try.prog 5 #[.slice A0 l0.length c0] w fun e w' => e = .returned (.bool r) ∧ Below w.heap.size w w' := by
  obtain rfl : true = r := Option.some.inj h
  clear h
  have HR := Aside0.mk hr0
  have HC := Aside0.mk hc0
  obtain ⟨b, ⟨K9, hK9⟩, hb9⟩ := fit9 l0
  have H9 := Aside0.mk (hK9 K9 (Nat.le_refl _))
  clear hr0 hc0 hK9
  dsimp only at H9
  cases b with
  | false =>
    clear hb9
    go_enter Try.func5, Try.ntmps5
    go_wp2_with fail
    refine (laws_zzFits9.calls K9 _ _ l0 false _ HR.out HC.out H9.out).mono ?_
    rintro e w1 ⟨rfl, hd⟩
    have HB := Aside0.mk hd.below
    clear hd
    go_wp2
    go_ret
    exact ⟨rfl, HB.out⟩
  | true =>
    have HF := Aside0.mk (hb9 rfl)
    clear hb9
    go_enter Try.func5, Try.ntmps5
    go_wp2_with fail
    refine (laws_zzFits9.calls K9 _ _ l0 true _ HR.out HC.out H9.out).mono ?_
    rintro e w1 ⟨rfl, hd⟩
    have HB := Aside0.mk hd.below
    clear hd H9
    go_wp2_with fail
    refine (impl_POSIDs.calls _ _ [[(⟨#[120]⟩ : ByteArray)], [(⟨#[120]⟩ : ByteArray)]] _ _ _ ?_ ?_ two_f).mono ?_
    · obtain ⟨h1, h2, h3, _⟩ := three_alloc w1 (.cells #[.string ⟨#[120]⟩] 9 (0, 0)) (.cells #[.string ⟨#[120]⟩] 9 (0, 0)) (.cells #[.slice (some ⟨w1.heap.size, 0, none⟩) 1 1, .slice (some ⟨w1.heap.size + 1, 0, none⟩) 1 1] 25 (0, 0))
      exact two_C h3 h1 h2
    · exact Nat.le_refl _
    rintro e w2 ⟨v0, v1, rfl, hs, hr, hb⟩
    obtain ⟨g, cap, e0, -⟩ := Kd.S_form hs (by simp)
    subst e0
    have hrd := (Kd.S_reads' hs).2.2
    obtain ⟨ad, B0, c1, e1, hx0, hl0, hi0⟩ := at_L4 hrd 0 (by omega) (by simp)
    cases e1
    obtain ⟨ad, B1, c2, e1, hx1, hl1, hi1⟩ := at_L4 hrd 1 (by omega) (by simp)
    cases e1
    have hc0 : w2.cell? ⟨g, 0, none⟩ = some (.slice B0 1 c1) := hx0
    have hc1 : w2.cell? ⟨g, 1, none⟩ = some (.slice B1 1 c2) := hx1
    have HI0 := Aside0.mk (show (Kd.int .i64).C w2 B0 ([1] : List Int).length [1] from hi0)
    have HI1 := Aside0.mk (show (Kd.int .i64).C w2 B1 ([1] : List Int).length [1] from hi1)
    have HL0 := Aside0.mk (show ([1] : List Int).length ≤ c1 from hl0)
    have HL1 := Aside0.mk (show ([1] : List Int).length ≤ c2 from hl1)
    have HB2 := Aside0.mk (below_up HB.out ((three_alloc w1 _ _ _).2.2.2.trans (hb.mono (by simp; omega))))
    obtain ⟨KS, hKS⟩ := sameInts_same ([1] : List Int) (by simp)
    have HS := Aside0.mk (hKS KS (Nat.le_refl _))
    clear hs hr hb hrd hx0 hx1 hi0 hi1 hl0 hl1 hKS HB
    dsimp only at HS
    have b1 : ((2 : Int) != 2) = false := by decide
    go_wp2_with fail
    go_quiet ((go_at_call 14; exact Calls.quiet_of ((laws_sameInts.calls KS _ _ [1] _ _ [1] true _ (Kd.C_drewN HI0.out _) HL0.out (Kd.C_drewN HI1.out _) HL1.out HS.out).mono fun e w' ⟨he, hd⟩ => ⟨he, hd.out⟩)))
    by_cases hl10 : l0.length ≤ 10
    case neg =>
      have hx1 : decide (10 < l0.length) = true := decide_eq_true (by omega)
      have hx2 : decide ((10 : Int) < (l0.length : Int)) = true := decide_eq_true (by omega)
      go_wp2
      go_ret
      exact ⟨rfl, pw_below_drewN HB2.out _⟩
    have hx1 : decide (10 < l0.length) = false := decide_eq_false (by omega)
    have hx2 : decide ((10 : Int) < (l0.length : Int)) = false := decide_eq_false (by omega)
    go_wp2_with fail
    have HB3 := Aside0.mk (pw_below_drewN HB2.out nq)
    clear HB2 hc0 hc1 HI0 HI1 HL0 HL1 HS hx1 hx2 b1
    go_loopw [47] (fun v47 wr => ∃ i : Nat, v47 = .int .i64 i ∧ Aside0 (i ≤ l0.length) ∧ Aside0 (∀ p, p < i → ∀ h : p < l0.length, l0[p].length ≤ 6) ∧ Aside0 (Below w.heap.size w wr)) (fun v47 _ => l0.length - (intOf v47).toNat)
    case atStart => exact ⟨0, rfl, ⟨Nat.zero_le _⟩, ⟨fun p hp => by omega⟩, HB3⟩
    case round =>
      clear HB3
      obtain ⟨i, rfl, HI, HP, HB⟩ := hrel
      by_cases hlt : i < l0.length
      · have hb1 : decide (i < l0.length) = true := decide_eq_true hlt
        have hb2 : decide ((i : Int) < (l0.length : Int)) = true := decide_eq_true (by omega)
        obtain ⟨ad, A1, c1, e1, hx1, hl1, hi1⟩ := at_L1 HR.out (i : Int) (by omega) (by omega)
        cases e1
        replace hx1 := (HB.out.cell (World.block_lt_of_cell? w _ hx1)).trans hx1
        have hrd : rd_L1 l0 (i : Int) = l0[i] := by simp [rd_L1, hlt]
        rw [hrd] at hx1 hl1 hi1
        simp only [Int.toNat_natCast] at hx1
        have HX := Aside0.mk (Kd.C_below hi1 HB.out)
        have HXL := Aside0.mk hl1
        obtain ⟨b, ⟨KC, hKC⟩, -⟩ := clean_ev 40 l0[i] (HF.out.2 _ (List.getElem_mem hlt))
        have HCL := Aside0.mk (hKC KC (Nat.le_refl _))
        dsimp only at HCL
        have HPS := Aside0.mk (show l0[i].length ≤ 6 → ∀ p, p < i + 1 → ∀ h : p < l0.length, l0[p].length ≤ 6 from fun h6 p hp h => by
          by_cases e : p = i
          · subst e; exact h6
          · exact HP.out p (by omega) h)
        clear hi1 hl1 hrd hKC
        generalize l0[i] = x at *
        have g1 : decide ((0 : Int) ≤ (i : Int)) = true := decide_eq_true (by omega)
        by_cases h6 : x.length ≤ 6
        · have hc1 : decide (6 < x.length) = false := decide_eq_false (by omega)
          have hc2 : decide ((6 : Int) < (x.length : Int)) = false := decide_eq_false (by omega)
          have HP6 := Aside0.mk (HPS.out h6)
          go_wp2_with fail
          refine (laws_clean.calls KC 40 _ _ x b _ HX.out HXL.out HCL.out).mono ?_
          rintro e w3 ⟨rfl, hb3⟩
          have HB3 := Aside0.mk (below_up HB.out hb3)
          clear hb3 HB HX HCL hx1 HPS
          cases b with
          | false =>
            go_wp2
            go_ret
            exact ⟨rfl, HB3.out⟩
          | true =>
            go_wp2
            go_roundw
            case rel => exact ⟨i + 1, by go_num, ⟨by omega⟩, HP6, HB3⟩
            case measure => simp [intOf]; omega
        · have hc1 : decide (6 < x.length) = true := decide_eq_true (by omega)
          have hc2 : decide ((6 : Int) < (x.length : Int)) = true := decide_eq_true (by omega)
          go_wp2
          go_ret
          exact ⟨rfl, HB.out⟩
      · have hb1 : decide (i < l0.length) = false := decide_eq_false hlt
        have hb2 : decide ((i : Int) < (l0.length : Int)) = false := decide_eq_false (by omega)
        have hi : i = l0.length := by have := HI.out; omega
        subst hi
        have hok : posOk l0 := posOk_of l0 hl10 (fun x hx => by obtain ⟨p, hp, rfl⟩ := List.getElem_of_mem hx; exact HP.out p hp hp) (fun x hx s hs => by have := (HF.out.2 x hx).2 s hs; omega)
        have HOK := Aside0.mk hok
        clear hok HP hlt
        go_wp2_with fail
        refine (impl_POSIDs.calls _ _ l0 _ _ _ (Kd.C_below HR.out HB.out) HC.out (show impl_POSIDs.f l0 = some (idsOf l0, (⟨#[]⟩ : ByteArray) :: posAll l0) from posIds_f l0 HOK.out)).mono ?_
        rintro e w3 ⟨v7, v8, rfl, hs7, hr8, hb⟩
        have HS7 := Aside0.mk hs7
        have HR8 := Aside0.mk hr8
        have HB3 := Aside0.mk (below_up HB.out hb)
        have HCM := Aside0.mk (C_came HR.out HB3.out)
        clear hs7 hr8 hb
        have hl7 : ((⟨#[]⟩ : ByteArray) :: posAll l0).length ≤ 60001 := by have := HOK.out.2.2; simp; omega
        have HL7 := Aside0.mk hl7
        clear hl7
        go_wp2_with (first | ((with_reducible refine gate_dst (N := 66) rfl ?_); refine Kd.R_lit (Kd.fixed (Kd.slice 9 Kd.string) w) (w0 := w3) w3.heap.size 25 ?hg (N := 66) ?hd (xs := ([] : List (List ByteArray))) (inner := []) (ok := fun _ => True) (okp := fun _ => True) ?hr ?hp (fun _ hk => hk) trivial (Below.refl _ _) (Nat.le_refl _) (by simp) ?_; (case hd => rfl); (case hg => rfl); (case hr => first | (go_simp; done) | (go_simp; rfl)); (case hp => exact Reps.none _ _); intro v66 w4 hr4 hb4 hg4 _; have HR4 := Aside0.mk hr4; have HB4 := Aside0.mk hb4; have HC4 := Aside0.mk (ReadsRow.imp_ HCM.out hb4 (fun _ _ h => h)); clear hr4 hb4 hg4) | ((with_reducible refine gate_dst (N := 68) rfl ?_); refine Kd.R_append_rows (Kd.fixed (Kd.slice 9 Kd.string) w) (Rr := (Kd.slice 9 Kd.string).K w) (w0 := w3) w3.heap.size rfl (.tmp 66) (.tmp 67) 22 25 (.slice none 0 0) 24 rfl Try.underlying22 info25 rfl Nat.one_pos (by omega) v66 [] l0 A0 l0.length c0 (fun _ => True) (fun _ => False) rfl rfl HR4.out HC4.out (fun _ _ h => h) (fun _ h => h.elim) (fun _ _ => trivial) HB4.out HB4.out.size (by simp; omega) ?_; intro v68 w5 hr5 hb5 hg5 _; have HR5 := Aside0.mk hr5; have HB5 := Aside0.mk hb5; have HC5 := Aside0.mk (ReadsRow.imp_ HCM.out hb5 (fun _ _ h => h)); clear hr5 hb5 hg5) | ((with_reducible refine gate_dst (N := 70) rfl ?_); refine Kd.R_append_rows (Kd.fixed (Kd.slice 9 Kd.string) w) (Rr := (Kd.slice 9 Kd.string).K w) (w0 := w3) w3.heap.size rfl (.tmp 68) (.tmp 69) 22 25 (.slice none 0 0) 24 rfl Try.underlying22 info25 rfl Nat.one_pos (by omega) v68 ([] ++ l0) l0 A0 l0.length c0 (fun _ => True) (fun _ => False) rfl rfl HR5.out HC5.out (fun _ _ h => h) (fun _ h => h.elim) (fun _ _ => trivial) HB5.out HB5.out.size (by simp; omega) ?_; intro v70 w6 hr6 hb6 hg6 _; have HR6 := Aside0.mk hr6; have HB6 := Aside0.mk hb6; clear hr6 hb6 hg6))
        obtain ⟨A7, c7, e7, hl7, hC7⟩ := Kd.R_reads HR6.out
        subst e7
        refine (impl_POSIDs.calls _ _ ([] ++ l0 ++ l0) _ _ _ (C_fixed hC7 ((HB3.out.trans (HB6.out.mono HB3.out.size)))) hl7 (twice_f l0 HOK.out hl10)).mono ?_
        rintro e w7 ⟨v9, v10, rfl, hs9, hr10, hb7⟩
        have hb37 : Below w3.heap.size w3 w7 := HB6.out.trans (hb7.mono HB6.out.size)
        have HB7 := Aside0.mk (HB3.out.trans (hb37.mono HB3.out.size))
        obtain ⟨A8, c8, e8, hl8, hC8⟩ := Kd.R_reads (Kd.R_below HR8.out hb37)
        subst e8
        obtain ⟨A10, c10, e10, hl10', hC10⟩ := Kd.R_reads hr10
        subst e10
        obtain ⟨A7', c7', e7', hl7', hC7'⟩ := Kd.S_reads (Kd.S_below HS7.out hb37)
        subst e7'
        obtain ⟨A9, c9, e9, hl9, hC9⟩ := Kd.S_reads hs9
        subst e9
        have HC8 := Aside0.mk hC8
        have HL8 := Aside0.mk hl8
        have HC10 := Aside0.mk hC10
        have HL10 := Aside0.mk hl10'
        have HC7 := Aside0.mk hC7'
        have HC9 := Aside0.mk hC9
        obtain ⟨KT, hKT⟩ := sameTexts_same ((⟨#[]⟩ : ByteArray) :: posAll l0) (by have := HL7.out; omega)
        have HKT := Aside0.mk (hKT KT (Nat.le_refl _))
        dsimp only at HKT
        have HRW := Aside0.mk (ids_row l0 HOK.out)
        have hil := idsOf_length l0
        have hil2 : (idsOf l0 ++ idsOf l0).length = 2 * l0.length := by rw [List.length_append, hil]; omega
        rw [hil] at hl7'
        clear hC8 hl8 hC10 hl10' hC7' hC9 hb7 hb37 hs9 hr10 HS7 HR8 HR4 HR5 HR6 HB4 HB5 HB6 HC4 HC5 hC7 hl7 hKT HCM hl9 hl7' HB
        generalize hN : (⟨#[]⟩ : ByteArray) :: posAll l0 = N at *
        clear hN
        have HIL := Aside0.mk hil
        have HIL2 := Aside0.mk hil2
        have hxa : (((idsOf l0).length : Int) != (l0.length : Int)) = false := by rw [hil]; simp
        have hxb : (((idsOf l0 ++ idsOf l0).length : Int) != 2 * (l0.length : Int)) = false := by rw [hil2]; simp
        generalize hI2 : idsOf l0 ++ idsOf l0 = I2 at *
        have HI2 := Aside0.mk hI2
        clear hI2 hil hil2
        generalize hI1 : idsOf l0 = I1 at *
        clear hI1
        go_wp2_with (go_at_call 13; refine (laws_sameTexts.calls KT _ _ N _ _ N true _ HC8.out HL8.out HC10.out HL10.out HKT.out).mono ?_; rintro e w8 ⟨rfl, hd8⟩; have HD8 := Aside0.mk hd8; clear hd8)
        have HW8 := Aside0.mk HD8.out.below
        clear HD8 hxa hxb HKT HC8 HL8 HC10 HL10 HL7
        go_loopw [95] (fun v95 wr => ∃ i : Nat, v95 = .int .i64 i ∧ Aside0 (i ≤ l0.length) ∧ Aside0 (Below w7.heap.size w7 wr)) (fun v95 _ => l0.length - (intOf v95).toNat)
        case atStart => exact ⟨0, rfl, ⟨Nat.zero_le _⟩, HW8⟩
        case round =>
          clear HW8
          obtain ⟨i, rfl, HI, HW⟩ := hrel
          have hIL := HIL.out
          by_cases hlt : i < l0.length
          · have hltI : i < I1.length := by omega
            have hb1 : decide (i < I1.length) = true := decide_eq_true hltI
            have hb2 : decide ((i : Int) < (I1.length : Int)) = true := decide_eq_true (by omega)
            obtain ⟨ad, A1, d1, e1, hx1, hl1, hi1⟩ := at_L4 (Kd.C_below HC7.out HW.out) (i : Int) (by omega) (by omega)
            cases e1
            obtain ⟨ad2, A2, d2, e2, hx2, hl2, hi2⟩ := at_L4 (Kd.C_below HC9.out HW.out) (i : Int) (by omega) (by have := HIL2.out; omega)
            cases e2
            obtain ⟨ad3, A3, d3, e3, hx3, hl3, hi3⟩ := at_L4 (Kd.C_below HC9.out HW.out) ((i : Int) + (l0.length : Int)) (by omega) (by have := HIL2.out; omega)
            cases e3
            have hr2 := rd_left I1 i hltI
            have hr3 := rd_right I1 i hltI
            have hmem := rd_memI I1 i hltI
            rw [HI2.out] at hr2 hr3
            rw [HIL.out] at hr3
            rw [hr2] at hx2 hl2 hi2
            rw [hr3] at hx3 hl3 hi3
            obtain ⟨KS, hKS⟩ := sameInts_same (rd_L4 I1 (i : Int)) (by have := HRW.out _ hmem; omega)
            have HKS := Aside0.mk (hKS KS (Nat.le_refl _))
            dsimp only at HKS
            have X1 := Aside0.mk hi1
            have X2 := Aside0.mk hi2
            have X3 := Aside0.mk hi3
            have Y1 := Aside0.mk hl1
            have Y2 := Aside0.mk hl2
            have Y3 := Aside0.mk hl3
            clear hr2 hr3 hmem hKS hi1 hi2 hi3 hl1 hl2 hl3 HIL
            simp only [Int.toNat_natCast] at hx1 hx2
            have hsum : ((i : Int) + (l0.length : Int)).toNat = i + l0.length := by omega
            rw [hsum] at hx3
            generalize rd_L4 I1 (i : Int) = q at *
            have g1 : (0 : Int) ≤ (i : Int) := by omega
            have g2 : (i : Int) < (I1.length : Int) := by omega
            have g3 : (i : Int) < (I2.length : Int) := by have := HIL2.out; omega
            have g4 : (0 : Int) ≤ (i : Int) + (l0.length : Int) := by omega
            have g5 : (i : Int) + (l0.length : Int) < (I2.length : Int) := by have := HIL2.out; omega
            have g6 : IntKind.i64.wrap ((i : Int) + (l0.length : Int)) = (i : Int) + (l0.length : Int) := by rw [IntKind.wrap_i64]; omega
            go_wp2_with fail
            go_quiet ((go_at_call 14; exact Calls.quiet_of ((laws_sameInts.calls KS _ _ q _ _ q true _ (by exact Kd.C_drewN X1.out _) Y1.out (by first | exact Kd.C_drewN X2.out _ | exact Kd.C_drewN X3.out _) (by first | exact Y2.out | exact Y3.out) HKS.out).mono fun e w' ⟨he, hd⟩ => ⟨he, hd.out⟩)))
            go_wp2
            go_roundw
            case rel => exact ⟨i + 1, by go_num, ⟨by omega⟩, ⟨pw_below_drewN HW.out _⟩⟩
            case measure => simp [intOf]; omega
          · have hb1 : decide (i < I1.length) = false := decide_eq_false (by omega)
            have hb2 : decide ((i : Int) < (I1.length : Int)) = false := decide_eq_false (by omega)
            go_wp2
            go_ret
            exact ⟨rfl, HB7.out.trans (HW.out.mono HB7.out.size)⟩
end Go.Proofs.Ytlhljldlbcgnoaa.P
