/- A filter alone matches features that begin with its own: the law's walk. No condition. -/
import Derived.Test.YtlhljldlbcgnoaaFilPl
import Derived.Test.YtlhljldlbcgnoaaP15
set_option linter.unusedVariables false
namespace Go.Proofs.Ytlhljldlbcgnoaa.P
open Go.RowKit Go.Proofs.YtlhljldlbcgnoaaW.PrintWords Go.Proofs.YtlhljldlbcgnoaaW.PrintLast Go.Proofs.YtlhljldlbcgnoaaW.PrintMore
open Go.Proofs.Ytlhljldlbcgnoaa.X

def laws_FnFilterOne.f (l0 l1 : List ByteArray) : Option Bool := some true
theorem below_up' {w a b : World} (h : Below w.heap.size w a) (h2 : Below a.heap.size a b) : Below w.heap.size w b := h.trans (h2.mono h.size)

theorem one_K {W : World} {b : Nat} {s : ByteArray} (h : W.heap[b]? = some (.cells #[.string s] 9 (0, 0))) : (Kd.slice 9 Kd.string).K W [s] [.slice (some ⟨b, 0, none⟩) 1 1] :=
  ⟨_, _, rfl, Nat.le_refl _, C_block (xs := [s]) h ⟨rfl, fun j p hj => by
    cases j with
    | zero => have : s = p := by simpa using hj
              subst this; rfl
    | succ j => simp at hj⟩ (by simp)⟩
theorem one_C {W : World} {b : Nat} {f : List ByteArray} {v : Value} (h0 : W.heap[b]? = some (.cells #[v] 25 (0, 0))) (h1 : (Kd.slice 9 Kd.string).K W f [v]) : (Kd.slice 9 Kd.string).C W (some ⟨b, 0, none⟩) 1 [f] :=
  C_block (xs := [f]) h0 ⟨rfl, fun j p hj => by
    cases j with
    | zero => have : f = p := by simpa using hj
              subst this; exact h1
    | succ j => simp at hj⟩ (by simp)
theorem texts1_C {W : World} {b : Nat} {s : ByteArray} (h : W.heap[b]? = some (.cells #[.string s] 9 (0, 0))) : Kd.string.C W (some ⟨b, 0, none⟩) 1 [s] :=
  C_block (xs := [s]) h ⟨rfl, fun j p hj => by
    cases j with
    | zero => have : s = p := by simpa using hj
              subst this; rfl
    | succ j => simp at hj⟩ (by simp)
theorem texts2_C {W : World} {b : Nat} {s t : ByteArray} (h : W.heap[b]? = some (.cells #[.string s, .string t] 9 (0, 0))) : Kd.string.C W (some ⟨b, 0, none⟩) 2 [s, t] :=
  C_block (xs := [s, t]) h ⟨rfl, fun j p hj => by
    match j, hj with
    | 0, hj => have : s = p := by simpa using hj
               subst this; rfl
    | 1, hj => have : t = p := by simpa using hj
               subst this; rfl
    | j + 2, hj => simp at hj⟩ (by simp)
theorem three_alloc' (w : World) (o1 o2 o3 : Obj) : (((w.alloc o1).alloc o2).alloc o3).heap[w.heap.size]? = some o1 ∧ (((w.alloc o1).alloc o2).alloc o3).heap[w.heap.size + 1]? = some o2 ∧ (((w.alloc o1).alloc o2).alloc o3).heap[w.heap.size + 1 + 1]? = some o3 ∧ Below w.heap.size w (((w.alloc o1).alloc o2).alloc o3) := by
  have s1 : (w.alloc o1).heap.size = w.heap.size + 1 := by simp
  have s2 : ((w.alloc o1).alloc o2).heap.size = w.heap.size + 1 + 1 := by simp
  refine ⟨?_, ?_, ?_, (((Below.refl _ _).alloc (Nat.le_refl _) _).alloc (by simp) _).alloc (by omega) _⟩
  · rw [heap_old _ (by omega), heap_old _ (by omega)]; exact heap_new w o1
  · rw [heap_old _ (by omega), ← s1]; exact heap_new _ o2
  · rw [← s2]; exact heap_new _ o3
theorem canary2 (a b c : ByteArray) (h1 : a ≠ Fil.ANY) : impl_FilterMatch.f [[a]] [b, c] = some (decide (a = b)) := by
  rw [impl_f _ _ (by simp) (by simp) (by simp), build_any _ _ (by simp) (by simp)]
  simp [Fil.wild, h1]

set_option maxHeartbeats 8000000 in
set_option maxRecDepth 100000 in
theorem laws_FnFilterOne.calls (A0 : Option Addr) (c0 : Nat) (l0 : List ByteArray) (A1 : Option Addr) (c1 : Nat) (l1 : List ByteArray) (r : Bool) (w : World) (hr0 : Kd.C Kd.string w A0 l0.length l0) (hc0 : l0.length ≤ c0) (hr1 : Kd.C Kd.string w A1 l1.length l1) (hc1 : l1.length ≤ c1) (h : laws_FnFilterOne.f l0 l1 = some r) :
    Calls Try.prog 7 #[.slice A0 l0.length c0, .slice A1 l1.length c1] w fun e w' => e = .returned (.bool r) ∧ Below w.heap.size w w' := by
  obtain rfl : true = r := Option.some.inj h
  clear h
  have HR0 := Aside0.mk hr0
  have HC0 := Aside0.mk hc0
  have HR1 := Aside0.mk hr1
  have HC1 := Aside0.mk hc1
  obtain ⟨b0, ⟨K0, hK0⟩, -⟩ := fit4 l0
  have H0 := Aside0.mk (hK0 K0 (Nat.le_refl _))
  obtain ⟨b1, ⟨K1, hK1⟩, -⟩ := fit4 l1
  have H1 := Aside0.mk (hK1 K1 (Nat.le_refl _))
  clear hr0 hc0 hr1 hc1 hK0 hK1
  dsimp only at H0 H1
  go_enter Try.func7, Try.ntmps7
  go_wp2_with fail
  refine (laws_zzFits4.calls K0 _ _ l0 b0 _ HR0.out HC0.out H0.out).mono ?_
  rintro e w1 ⟨rfl, hd⟩
  have HB1 := Aside0.mk hd.below
  clear hd H0
  cases b0 with
  | false =>
    go_wp2
    go_ret
    exact ⟨rfl, HB1.out⟩
  | true =>
    go_wp2_with fail
    refine (laws_zzFits4.calls K1 _ _ l1 b1 _ (Kd.C_below HR1.out HB1.out) HC1.out H1.out).mono ?_
    rintro e w2 ⟨rfl, hd⟩
    have HB2 := Aside0.mk (below_up' HB1.out hd.below)
    clear hd H1 HB1
    cases b1 with
    | false =>
      go_wp2
      go_ret
      exact ⟨rfl, HB2.out⟩
    | true =>
      go_wp2_with fail
      obtain ⟨h1, h2, h3, h4⟩ := three_alloc' w2 (.cells #[.string ⟨#[97]⟩] 9 (0, 0)) (.cells #[.slice (some ⟨w2.heap.size, 0, none⟩) 1 1] 25 (0, 0)) (.cells #[.string ⟨#[97]⟩, .string ⟨#[98]⟩] 9 (0, 0))
      have HQ := Aside0.mk h4
      refine (impl_FilterMatch.calls _ _ [[(⟨#[97]⟩ : ByteArray)]] _ _ [(⟨#[97]⟩ : ByteArray), (⟨#[98]⟩ : ByteArray)] _ _ (one_C h2 (one_K h1)) (Nat.le_refl _) (texts2_C h3) (Nat.le_refl _) (canary2 _ _ _ (by decide))).mono ?_
      rintro e w3 ⟨rfl, hb⟩
      have HB3 := Aside0.mk (below_up' (below_up' HB2.out HQ.out) hb)
      clear h1 h2 h3 h4 hb HQ HB2
      have hd1 : decide ((⟨#[97]⟩ : ByteArray) = (⟨#[97]⟩ : ByteArray)) = true := decide_eq_true rfl
      rw [hd1]
      clear hd1
      by_cases hz : l0.length = 0
      · have q1 : ((l0.length : Int) == 0) = true := by rw [hz]; rfl
        have q2 : (l0.length == 0) = true := by rw [hz]; rfl
        have q3 : l0 = [] := List.length_eq_zero_iff.1 hz
        subst q3
        go_wp2
        go_ret
        exact ⟨rfl, HB3.out⟩
      have q1 : ((l0.length : Int) == 0) = false := beq_eq_false_iff_ne.2 (by omega)
      have q2 : (l0.length == 0) = false := beq_eq_false_iff_ne.2 hz
      by_cases h8 : 8 < l0.length
      · have q3 : decide ((8 : Int) < (l0.length : Int)) = true := decide_eq_true (by omega)
        have q4 : decide (8 < l0.length) = true := decide_eq_true (by omega)
        go_wp2
        go_ret
        exact ⟨rfl, HB3.out⟩
      have q3 : decide ((8 : Int) < (l0.length : Int)) = false := decide_eq_false (by omega)
      have q4 : decide (8 < l0.length) = false := decide_eq_false (by omega)
      by_cases h12 : 12 < l1.length
      · have q5 : decide ((12 : Int) < (l1.length : Int)) = true := decide_eq_true (by omega)
        have q6 : decide (12 < l1.length) = true := decide_eq_true (by omega)
        go_wp2
        go_ret
        exact ⟨rfl, HB3.out⟩
      have q5 : decide ((12 : Int) < (l1.length : Int)) = false := decide_eq_false (by omega)
      have q6 : decide (12 < l1.length) = false := decide_eq_false (by omega)
      have HZ := Aside0.mk hz
      have H8 := Aside0.mk h8
      have H12 := Aside0.mk h12
      obtain ⟨ok, hok⟩ : ∃ ok, decide (l0.length ≤ l1.length) = ok := ⟨_, rfl⟩
      have hok2 : decide ((l0.length : Int) ≤ (l1.length : Int)) = ok := by rw [← hok]; exact decide_eq_decide.2 (by omega)
      have HOK := Aside0.mk hok
      clear hz h8 h12
      go_wp2_with fail
      clear q1 q2 q3 q4 q5 q6 hok hok2
      go_loopw [5, 40] (fun v5 v40 wr => ∃ (i : Int) (o : Bool), v5 = .bool o ∧ v40 = .int .i64 i ∧ Aside0 (0 ≤ i ∧ i ≤ l0.length) ∧ Aside0 (o = true → l0.length ≤ l1.length) ∧ Aside0 (Fil.wild l0 l1 = (o && Fil.wild (l0.drop i.toNat) (l1.drop i.toNat))) ∧ Aside0 (Below w.heap.size w wr)) (fun _ v40 _ => l0.length - (intOf v40).toNat)
      case atStart => exact ⟨0, ok, rfl, rfl, ⟨by omega⟩, ⟨fun h => by rw [h] at HOK; exact of_decide_eq_true HOK.out⟩, ⟨by
        cases ok with
        | true => simp
        | false =>
          have h9 := of_decide_eq_false HOK.out
          cases h : Fil.wild l0 l1 with
          | false => rfl
          | true => exact absurd (wild_len _ _ h) h9⟩, HB3⟩
      case round =>
        clear HB3 HOK
        obtain ⟨i, o, rfl, rfl, HI, HO, HW, HB⟩ := hrel
        obtain ⟨hi0, hi1⟩ := HI.out
        have hl8 : l0.length ≤ 8 := by have := H8.out; omega
        by_cases hlt : i < l0.length
        · have hb1 : decide (i < (l0.length : Int)) = true := decide_eq_true hlt
          have g0 : decide ((0 : Int) ≤ i) = true := decide_eq_true hi0
          have hT : (i + 1).toNat = i.toNat + 1 := by omega
          have HT := Aside0.mk hT
          clear hT
          cases o with
          | false =>
            have hres : Fil.wild l0 l1 = (false && Fil.wild (l0.drop (i + 1).toNat) (l1.drop (i + 1).toNat)) := by rw [HW.out]; rfl
            have HRES := Aside0.mk hres
            clear hres
            go_wp2_with fail
            go_quiet (fail)
            go_wp2
            go_roundw
            case rel => exact ⟨i + 1, false, rfl, rfl, ⟨by omega⟩, ⟨fun h => by cases h⟩, HRES, ⟨pw_below_drewN HB.out _⟩⟩
            case measure => simp [intOf]; omega
          | true =>
            have hle := HO.out rfl
            have hlt1 : i < l1.length := by omega
            have hb2 : decide (i < (l1.length : Int)) = true := decide_eq_true hlt1
            obtain ⟨ad0, e0, hx⟩ := Kd.at_string (Kd.C_below HR0.out HB.out) i hi0 hlt
            subst e0
            obtain ⟨ad1, e1, hy⟩ := Kd.at_string (Kd.C_below HR1.out HB.out) i hi0 hlt1
            subst e1
            have hn0 : i.toNat < l0.length := by omega
            have hn1 : i.toNat < l1.length := by omega
            have hd0 : l0.drop i.toNat = rdOf ByteArray.empty l0 i :: l0.drop (i.toNat + 1) := by
              rw [List.drop_eq_getElem_cons hn0]; simp [rdOf, hn0]
            have hd1 : l1.drop i.toNat = rdOf ByteArray.empty l1 i :: l1.drop (i.toNat + 1) := by
              rw [List.drop_eq_getElem_cons hn1]; simp [rdOf, hn1]
            have hstep : Fil.wild l0 l1 = ((decide (rdOf ByteArray.empty l0 i = Fil.ANY) || decide (rdOf ByteArray.empty l0 i = rdOf ByteArray.empty l1 i)) && Fil.wild (l0.drop (i + 1).toNat) (l1.drop (i + 1).toNat)) := by
              rw [HW.out, HT.out, hd0, hd1]; rfl
            have HST := Aside0.mk hstep
            have HLE := Aside0.mk hle
            clear hd0 hd1 hstep hn0 hn1 hle
            generalize rdOf ByteArray.empty l0 i = x at *
            generalize rdOf ByteArray.empty l1 i = y at *
            by_cases ha : x = Fil.ANY
            · have e1 : (x.toList == ([0] : List UInt8)) = true := by rw [ha, ByteArray.toList_eq]; decide
              have hres : Fil.wild l0 l1 = (true && Fil.wild (l0.drop (i + 1).toNat) (l1.drop (i + 1).toNat)) := by rw [HST.out, ha]; simp
              have HRES := Aside0.mk hres
              clear hres ha
              go_wp2_with fail
              go_quiet (fail)
              go_wp2
              go_roundw
              case rel => exact ⟨i + 1, true, rfl, rfl, ⟨by omega⟩, ⟨fun _ => HLE.out⟩, HRES, ⟨pw_below_drewN HB.out _⟩⟩
              case measure => simp [intOf]; omega
            · have e1 : (x.toList == ([0] : List UInt8)) = false := beq_eq_false_iff_ne.2 (fun e => ha (any_iff.1 e))
              obtain ⟨o, e2⟩ : ∃ o, (x.toList == y.toList) = o := ⟨_, rfl⟩
              have hres : Fil.wild l0 l1 = (o && Fil.wild (l0.drop (i + 1).toNat) (l1.drop (i + 1).toNat)) := by
                rw [HST.out, ← e2]
                by_cases hx : x = y
                · simp [hx]
                · have : (x.toList == y.toList) = false := beq_eq_false_iff_ne.2 fun h => hx (toList_inj h)
                  rw [this]; simp [ha, hx]
              have HRES := Aside0.mk hres
              clear hres ha
              go_wp2_with fail
              go_quiet (fail)
              go_wp2
              go_roundw
              case rel => exact ⟨i + 1, o, rfl, rfl, ⟨by omega⟩, ⟨fun _ => HLE.out⟩, HRES, ⟨pw_below_drewN HB.out _⟩⟩
              case measure => simp [intOf]; omega
        · have hb1 : decide (i < (l0.length : Int)) = false := decide_eq_false hlt
          have hend : Fil.wild l0 l1 = o := by
            rw [HW.out, List.drop_eq_nil_of_le (by omega)]; simp [Fil.wild]
          have hne : ∀ f ∈ [l0], f ≠ [] := fun f hf => by
            simp at hf; subst hf; intro h; exact HZ.out (by rw [h]; rfl)
          have hF : impl_FilterMatch.f [l0] l1 = some o := by
            have := H8.out
            have := H12.out
            rw [impl_f _ _ (by simp) (by simp; omega) (by omega), build_any _ _ hne (by simp)]
            simp [hend]
          have HF := Aside0.mk hF
          clear hend hne hF
          go_wp2_with fail
          refine (impl_FilterMatch.calls _ _ [l0] _ _ l1 _ _ (one_C (heap_new wr _) ⟨A0, c0, rfl, HC0.out, Kd.C_below HR0.out (below_up' HB.out (below_alloc (Below.refl _ _) _))⟩) (Nat.le_refl _) (Kd.C_below HR1.out (below_up' HB.out (below_alloc (Below.refl _ _) _))) HC1.out HF.out).mono ?_
          rintro e w4 ⟨rfl, hb⟩
          have HB4 := Aside0.mk (below_up' (below_up' HB.out (below_alloc (Below.refl _ _) _)) hb)
          have e3 : (o == o) = true := beq_self_eq_true o
          clear hb
          go_wp2
          go_ret
          exact ⟨rfl, HB4.out⟩
end Go.Proofs.Ytlhljldlbcgnoaa.P
