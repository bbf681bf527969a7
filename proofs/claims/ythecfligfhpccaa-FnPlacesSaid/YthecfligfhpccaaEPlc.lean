/- impl.Places, impl.PlacesSorted: the walks. -/
import Derived.Test.YthecfligfhpccaaEPlG
import Derived.Test.YthecfligfhpccaaESo
set_option linter.unusedVariables false
namespace Go.Proofs.Ythecfligfhpccaa.Li
open Go.RowKit Go.Proofs.YthecfligfhpccaaW.PrintWords Go.Proofs.YthecfligfhpccaaW.PrintLast Go.Proofs.YthecfligfhpccaaW.PrintMore Go.Proofs.Ythecfligfhpccaa.Gn
theorem infoII : (Try.prog.info? 41).map (fun i => (i.zero, i.size, i.bytes)) = some (some (.slice none 0 0), 1, 24) := by kernel_rfl
def placesOf (D : List (ByteArray × List Int)) (kw : List ByteArray) : List (List Int) := kw.map fun p => (getM D p).getD []
def PaPost (D : List (ByteArray × List Int)) (kw : List ByteArray) (w : World) (e : Ending) (w' : World) : Prop :=
  ∃ v, e = .returned v ∧ Kd.S (Kd.slice 3 (Kd.int .i64)) 41 w' w.heap.size (fun _ => True) v (placesOf D kw) ∧ Below w.heap.size w w'
theorem getM_len (s : List Int) : ∀ (kw : List ByteArray) (p : ByteArray), ((getM (foldM s kw) p).getD []).length ≤ (s.length + 1) * kw.length := by
  have h1 : ∀ (q : List Int) (f i : Nat), (occ s q f i).length ≤ f := by
    intro q f
    induction f with
    | zero => intro i; simp [occ]
    | succ f ih =>
      intro i
      simp only [occ]
      split
      · simp
      · rw [List.length_cons]; have := ih (lastIx (s.take i) q).toNat; omega
  have h2 : ∀ (kw : List ByteArray) (D : List (ByteArray × List Int)) (n : Nat), (∀ p, ((getM D p).getD []).length ≤ n) → ∀ p, ((getM (kw.foldl (fun D p => addAll D p (occs s (bytesOf p))) D) p).getD []).length ≤ n + (s.length + 1) * kw.length := by
    intro kw
    induction kw with
    | nil => intro D n h p; simpa using h p
    | cons q kw ih =>
      intro D n h p
      rw [List.foldl_cons]
      have := ih (addAll D q (occs s (bytesOf q))) (n + (s.length + 1)) (fun p => by
        rw [getM_addAll]
        split
        · rename_i hc
          simp only [Option.getD_some, List.length_append]
          have a := h q
          have b := h1 (bytesOf q) (s.length + 1) s.length
          unfold occs; omega
        · have := h p; omega) p
      rw [List.length_cons, Nat.mul_succ]
      omega
  intro kw p
  have := h2 kw [] 0 (fun p => by simp [getM]) p
  unfold foldM; omega
set_option maxHeartbeats 2000000 in
set_option maxRecDepth 100000 in
theorem places_calls (w : World) (x : ByteArray) (A1 : Option Addr) (c1 : Nat) (kw : List ByteArray) (hr1 : Kd.C Kd.string w A1 kw.length kw) (hc1 : kw.length ≤ c1)
    (hl : x.size ≤ 1000) (hk : kw.length ≤ 1000) (hne : ∀ p ∈ kw, 1 ≤ p.size ∧ p.size ≤ 1000) :
    Calls Try.prog 17 #[.string x, .slice A1 kw.length c1] w (PaPost (foldM (bytesOf x) kw) kw w) := by
  have hbz := print_bytes (P := Try.prog) 9 46 5 Try.underlying9 Try.underlying46 Try.underlying5 x
  have hc0 := bytesWorld_chg w 5 x
  have hbl : (bytesOf x).length = x.size := bytesOf_length x
  have hfa := findAll_calls (Lib.bytesWorld w 5 x) (some ⟨w.heap.size, 0, none⟩) A1 (grownCap w x.size 0 5) c1 (bytesOf x) kw (by rw [hbl]; exact bytesWorld_C w 5 x (by omega)) (by rw [hbl]; exact grownCap_ge _ _ _ _) (Kd.C_below hr1 (hc0.toBelow (Nat.le_refl _) (by simp))) hc1 (by_bytes x) (by omega) hk hne
  rw [hbl] at hfa
  have HFA := Aside0.mk hfa
  have HR1 := Aside0.mk hr1
  have HC0 := Aside0.mk hc0
  have HLN : Aside0 (∀ p, ((getM (foldM (bytesOf x) kw) p).getD []).length ≤ 1001 * kw.length) := ⟨fun p => by
    have := getM_len (bytesOf x) kw p
    have h2 : ((bytesOf x).length + 1) * kw.length ≤ 1001 * kw.length := Nat.mul_le_mul_right _ (by omega)
    omega⟩
  obtain ⟨D, hD⟩ : ∃ D, D = foldM (bytesOf x) kw := ⟨_, rfl⟩
  rw [← hD] at HLN
  have HD := Aside0.mk hD
  rw [← hD]
  clear hfa hr1 hc0 hbl hl hne hc1 hD
  go_enter Try.func17, Try.ntmps17
  go_wp2_with (go_at_call 28; refine HFA.out.mono ?_; rintro e w1 ⟨r, S, rfl, ho⟩; rw [← HD.out] at ho; have HO := Aside0.mk ho; have HB1 : Aside0 (Below w.heap.size w w1) := ⟨(HC0.out.trans ho.chg).toBelow (Nat.le_refl _) (by simp)⟩; clear ho HFA HC0)
  clear hbz HD
  go_loopw [6, 15] (fun v6 v15 wr => ∃ k : Nat, v15 = .int .i64 k ∧ Aside0 (k ≤ kw.length) ∧ Aside0 (Kd.S (Kd.slice 3 (Kd.int .i64)) 41 wr w1.heap.size (fun _ => True) v6 (placesOf D (kw.take k))) ∧ Aside0 (Below w1.heap.size w1 wr)) (fun _ v15 _ => kw.length - (intOf v15).toNat)
  case atStart => exact ⟨0, rfl, ⟨Nat.zero_le _⟩, ⟨Kd.S_nil _ _ _ _ _⟩, ⟨Below.refl _ _⟩⟩
  case round =>
    obtain ⟨k, rfl, HI, HS, HB⟩ := hrel
    have hcr := Chg.below HB.out
    by_cases hlt : k < kw.length
    · obtain ⟨A6, c6, e6⟩ := Kd.R_slice (Kd.S_R HS.out)
      have hpl : (placesOf D (kw.take k)).length = k := by unfold placesOf; rw [List.length_map, List.length_take]; omega
      rw [hpl] at e6
      subst e6
      obtain ⟨ad, ead, hcell⟩ := Kd.at_string (Kd.C_below (Kd.C_below HR1.out HB1.out) HB.out) (k : Int) (by omega) (by omega)
      subst ead
      rw [Int.toNat_natCast] at hcell
      obtain ⟨p, hp⟩ : ∃ p, p = kw[k] := ⟨_, rfl⟩
      have hpe : Go.Proofs.YthecfligfhpccaaW.PrintWords.rdOf ByteArray.empty kw (k : Int) = p := by rw [hp]; simp [Go.Proofs.YthecfligfhpccaaW.PrintWords.rdOf, hlt]
      rw [hpe] at hcell
      obtain ⟨L, hL⟩ : ∃ L, L = (getM D p).getD [] := ⟨_, rfl⟩
      have HTK : Aside0 (placesOf D (kw.take (k + 1)) = placesOf D (kw.take k) ++ [L]) := ⟨by rw [List.take_succ_eq_append_getElem hlt]; unfold placesOf; rw [List.map_append, hL, hp]; rfl⟩
      have hLl : L.length ≤ 1001 * kw.length := by rw [hL]; exact HLN.out p
      have HOK := Aside0.mk (HO.out.step hcr)
      have hlk := HOK.out.look p
      rw [← hL] at hlk
      obtain ⟨AL, cL, eL, _⟩ := hlk.slice
      obtain ⟨nL, hnL⟩ : ∃ nL, nL = (L.map (Value.int .i64)).length := ⟨_, rfl⟩
      rw [← hnL] at eL
      rw [eL] at hlk
      have HLK := Aside0.mk hlk
      have HLV := Aside0.mk eL
      have k1 : decide ((0:Int) ≤ (k:Int)) = true := decide_eq_true (by omega)
      have k2 : decide ((k:Int) < (kw.length:Int)) = true := decide_eq_true (by omega)
      have HPL := Aside0.mk hpl
      clear hpe hp hL hlk eL hnL hcr hpl
      have HOA := Aside0.mk (HOK.out.step ((Chg.refl [] wr).alloc (.cells #[] 3)))
      have HLA := Aside0.mk (HLK.out.chg ((Chg.refl [] wr).alloc (.cells #[] 3)) (by simp))
      have HLL : Aside0 ((L.map (Value.int .i64)).length ≤ 1001 * kw.length) := ⟨by rw [List.length_map]; exact hLl⟩
      clear hLl
      go_wp2_with (first | (at_lookup; refine wpList_lookup rfl _ _ _ false rfl rfl p rfl HOA.out.mp.at (keyStr Try.underlying9) Try.underlying59 (.slice none 0 0) zeroRow ?_; rw [if_neg (by decide), HLV.out]) | (at_builtin; refine wpList_appendRow rfl _ _ 41 rfl 3 (.int .i64 0) 8 Try.underlying41 infoI rfl (.slice (some ⟨wr.heap.size, 0, none⟩) 0 0) [] rfl (ORow.made0 wr 3) 3 (.slice AL nL cL) (L.map (Value.int .i64)) rfl HLA.out (by intro y hy; obtain ⟨z, _, rfl⟩ := List.mem_map.1 hy; rfl) ?c3 ?c4 ?_; (case c3 => (have := HLL.out; simp only [List.length_nil]; omega)); (case c4 => (have := HLL.out; simp only [List.length_nil]; unfold maxLen; omega)); intro v5 w5 hr5 hc5 ho5; rw [List.nil_append] at hr5; obtain ⟨A5, c5, e5, _⟩ := hr5.slice; obtain ⟨n5, hn5⟩ : ∃ n5, n5 = (L.map (Value.int .i64)).length := ⟨_, rfl⟩; rw [← hn5] at e5; subst e5; clear hn5; have HR5 := Aside0.mk hr5; have HO5 := Aside0.mk ho5; have HC5 : Aside0 (Chg [] wr w5) := ⟨((Chg.refl [] wr).alloc _).above hc5 (fun i hi => .inr (by have : i = wr.heap.size := (by simpa [Value.ownBlock] using hi); omega))⟩; have HG5 : Aside0 (∀ g, (Value.slice A5 n5 c5).ownBlock = some g → wr.heap.size ≤ g) := ⟨fun g hg => by rw [hg] at ho5; rcases ho5 with q | q <;> (have q2 : g = _ := (by injection q)); exact Nat.le_of_eq q2.symm; rw [q2, size_alloc]; omega⟩; have HB5 : Aside0 (Below wr.heap.size wr w5) := ⟨HC5.out.toBelow (Nat.le_refl _) (by simp)⟩; have hlt6 := Kd.S_lt HS.out; have HNB : Aside0 (∀ g, some g = (Value.slice A5 n5 c5).ownBlock → some g ≠ (Value.slice A6 k c6).ownBlock) := ⟨fun g e e2 => by have a := HG5.out g e.symm; have b := hlt6 g e2.symm; omega⟩; have HS5 : Aside0 (Kd.S (Kd.slice 3 (Kd.int .i64)) 41 w5 w1.heap.size (fun k_ => True ∧ ¬ some k_ = (Value.slice A5 n5 c5).ownBlock) (.slice A6 k c6) (placesOf D (kw.take k))) := ⟨Kd.S_mono (Kd.S_below (Kd.S_bound HS.out) HB5.out) (fun g hg => ⟨trivial, fun e => by have a := HG5.out g e.symm; have := hg.2.2.1; omega⟩)⟩; have HW5 : Aside0 (Below w1.heap.size w1 w5) := ⟨HB.out.trans (HB5.out.mono HB.out.size)⟩; have HR6 : Aside0 ((Kd.int .i64).R 3 w5 w1.heap.size (fun k_ => some k_ = (Value.slice A5 n5 c5).ownBlock) (.slice A5 n5 c5) L) := ⟨R_of_row (enc := Value.int .i64) HR5.out (fun g hg => ⟨Nat.le_trans HB.out.size (HG5.out g hg), hg.symm⟩)⟩; clear hr5 hc5 ho5 hlt6) | (at_builtin; refine Kd.S_append (Kd.slice 3 (Kd.int .i64)) (w0 := w1) (W := w5) w1.heap.size rfl _ _ 38 41 (.slice none 0 0) 24 rfl Try.underlying38 infoII rfl (by decide) (by omega) (.slice A6 k c6) (placesOf D (kw.take k)) L [.slice A5 n5 c5] (fun _ => True) (fun k_ => some k_ = (Value.slice A5 n5 c5).ownBlock) rfl rfl ?aP (fun k_ hk_ => ⟨trivial, HNB.out k_ hk_⟩) (fun _ _ => trivial) HS5.out HW5.out ?aS ?aL ?_; (case aP => exact Kd.M_row HR6.out); (case aS => exact HW5.out.size); (case aL => (rw [HPL.out]; omega)); intro v6 w6 hs6 hb6 hg6 hat6; have HS6 := Aside0.mk hs6; have HB6 := Aside0.mk hb6; clear hs6 hb6 hg6 hat6))
      go_roundw
      case rel => exact ⟨k + 1, by go_num, ⟨by omega⟩, ⟨by rw [HTK.out]; exact HS6.out⟩, HB6⟩
      case measure => simp [intOf]; omega
    · have hk2 : k = kw.length := by have := HI.out; omega
      have hS := HS.out
      rw [hk2, List.take_length] at hS
      have HSX := Aside0.mk hS
      have k1 : decide (k < kw.length) = false := decide_eq_false hlt
      have k2 : decide ((k:Int) < (kw.length:Int)) = false := decide_eq_false (by omega)
      clear hk2 hS hcr
      go_wp2_with fail
      go_ret
      exact ⟨_, rfl, Kd.S_lower HSX.out HB1.out.size, HB1.out.trans (HB.out.mono HB1.out.size)⟩
end Go.Proofs.Ythecfligfhpccaa.Li
