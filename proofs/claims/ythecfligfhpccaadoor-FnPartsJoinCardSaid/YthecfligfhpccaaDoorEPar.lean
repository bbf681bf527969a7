/- impl.Parts: the walk. -/
import Derived.Test.YthecfligfhpccaaDoorEPaS
set_option linter.unusedVariables false
namespace Go.Proofs.YthecfligfhpccaaDoor.Pa
open Go.RowKit Go.Lib Go.Proofs.YthecfligfhpccaaDoorW.PrintWords Go.Proofs.YthecfligfhpccaaDoor.Gn Go.Proofs.YthecfligfhpccaaDoor.X
theorem infoStr : (Tryd.prog.info? 9).map (fun i => (i.zero, i.size, i.bytes)) = some (some (.string ⟨#[]⟩), 1, 16) := by kernel_rfl
theorem str_ints (s : ByteArray) : strOfNums ((List.range s.size).map (byt s)) = s := by
  unfold strOfNums
  cases s with
  | mk a =>
    congr 1
    apply Array.ext
    · simp; rfl
    · intro i h1 h2
      simp only [List.getElem_toArray, List.getElem_map, List.getElem_range]
      rw [byt_eq ⟨a⟩ i h2]
      simp
/-- string(x) where x is a slice of the bytes p. -/
theorem PRd.string {P : Program} {w : World} {b o c : Nat} {p : ByteArray} (h : RdB w b o p) (hp : p.size ≤ 1000000) {src dst e : TypeId} (hs : P.underlying src = some (.slice e)) (he : P.underlying e = some (.int .u8)) (hd : P.underlying dst = some .string) :
    (convert src dst (.slice (some ⟨b, o, none⟩) p.size c)).run P w = .ok (.string p) w := by
  have hr : ReadsInt w .u8 (some ⟨b, o, none⟩) p.size ((List.range p.size).map (byt p)) := by
    refine ⟨by simp, by omega, fun _ => ⟨_, rfl, fun j hj => ?_⟩⟩
    have := h.cell j hj
    have e1 : (Addr.add ⟨b, o, none⟩ j) = ⟨b, o + j, none⟩ := by unfold Addr.add; split <;> simp_all
    rw [e1, this]
    simp [hj]
  have := string_of_reads (P := P) (src := src) (dst := dst) (e := e) (c := c) hs he hd hr
  rw [str_ints] at this
  exact this
theorem bytes_RdB (w : World) (s : ByteArray) : RdB (Lib.bytesWorld w 5 s) w.heap.size 0 s := by
  have h1 := Lib.bytesWorld_at_new w 5 s
  refine ⟨_, _, h1, fun j hj => ?_⟩
  have h2 := Lib.bytesWorld_cell w 5 s j hj
  have h3 : j < s.data.toList.length := by rw [Array.length_toList]; exact hj
  unfold World.cell? at h2
  rw [h1] at h2
  rw [Nat.zero_add, byt_eq s j hj]
  simpa [List.getD_eq_getElem?_getD, List.getElem?_eq_getElem h3] using h2
theorem bytes_chg (w : World) (s : ByteArray) : Chg [] w (Lib.bytesWorld w 5 s) := ⟨rfl, rfl, rfl, by rw [Lib.bytesWorld_size]; omega, fun i hi _ => Lib.bytesWorld_at_old w 5 s i hi⟩
def SrPost (ps : List ByteArray) (w : World) (e : Ending) (w' : World) : Prop := ∃ v, e = .returned v ∧ ORow w' 9 v (ps.map Value.string) ∧ Chg [] w w' ∧ ∀ g, v.ownBlock = some g → w.heap.size ≤ g
set_option maxHeartbeats 4000000 in
set_option maxRecDepth 100000 in
theorem implParts_calls (w : World) (s : ByteArray) (o : Opt) (hl : s.size ≤ 1000) (hT : Tabs w) :
    Calls Tryd.prog 6 #[.string s, .bool o.each, .bool o.alpha, .bool o.num] w (SrPost (parts s o) w) := by
  have hbz := print_bytes (P := Tryd.prog) 9 44 5 Tryd.underlying9 Tryd.underlying44 Tryd.underlying5 s
  have HT := Aside0.mk hT
  obtain ⟨e1, h1⟩ : ∃ e1, e1 = o.each := ⟨_, rfl⟩
  obtain ⟨e2, h2⟩ : ∃ e2, e2 = o.alpha := ⟨_, rfl⟩
  obtain ⟨e3, h3⟩ : ∃ e3, e3 = o.num := ⟨_, rfl⟩
  rw [← h1, ← h2, ← h3]
  have H1 := Aside0.mk h1
  have H2 := Aside0.mk h2
  have H3 := Aside0.mk h3
  obtain ⟨wa, hwa⟩ : ∃ wa, wa = w.alloc (.cells #[.bool e1, .bool e2, .bool e3] 40) := ⟨_, rfl⟩
  have hza : wa.heap.size = w.heap.size + 1 := by rw [hwa]; exact size_alloc _ _
  have hca : Chg [] w wa := by rw [hwa]; exact (Chg.refl [] w).alloc _
  have hcb := hca.trans (bytes_chg wa s)
  have hsp := split_calls (Lib.bytesWorld wa 5 s) w.heap.size wa.heap.size (grownCap wa s.size 0 5) s o (by rw [Lib.bytesWorld_at_old wa 5 s _ (by omega), hwa, h1, h2, h3]; exact heap_alloc_new _ _) (bytes_RdB wa s) (grownCap_ge _ _ _ _) hl (hT.below (hcb.toBelow (Nat.le_refl _) (by simp)))
  rw [hza] at hsp
  rw [hwa] at hsp hcb
  have HSP := Aside0.mk hsp
  have HCB := Aside0.mk hcb
  have HPL : Aside0 ((parts s o).length ≤ 100000) := ⟨by have := (go_small s o (s.size + 1) 0 0 true).1; unfold parts; omega⟩
  have HPS : Aside0 (∀ p ∈ parts s o, p.size ≤ 1000) := ⟨fun p hp => by have := (go_small s o (s.size + 1) 0 0 true).2 p hp; omega⟩
  obtain ⟨ps, hps⟩ : ∃ ps, ps = parts s o := ⟨_, rfl⟩
  unfold SpPost at hsp
  rw [← hps] at HPL HPS
  have HPP := Aside0.mk hps
  rw [← hps]
  clear hT h1 h2 h3 hwa hza hca hcb hsp hps
  go_enter Tryd.func6, Tryd.ntmps6
  go_wp2_with (go_at_call 18; refine HSP.out.mono ?_; rintro e w1 ⟨v, rfl, hv, hc⟩; rw [← HPP.out] at hv; obtain ⟨A1, c1, e1'⟩ := hv.slice; obtain ⟨M, hM⟩ : ∃ M, M = ps.length := ⟨_, rfl⟩; rw [← hM] at e1'; subst e1'; have HM := Aside0.mk hM; have HV := Aside0.mk hv; have HC : Aside0 (Chg [] w w1) := ⟨HCB.out.trans hc⟩; clear hv hc hM HSP HCB)
  clear hbz
  go_loopw [10, 21] (fun v10 v21 wr => ∃ k : Nat, v21 = .int .i64 k ∧ Aside0 (k ≤ M) ∧ Aside0 (ORow wr 9 v10 ((ps.take k).map Value.string)) ∧ Aside0 (∀ g, v10.ownBlock = some g → w1.heap.size ≤ g) ∧ Aside0 (Chg [] w1 wr)) (fun _ v21 _ => M - (intOf v21).toNat)
  case atStart => exact ⟨0, rfl, ⟨Nat.zero_le _⟩, ⟨ORow.nil _ _⟩, ⟨fun g hg => by cases hg⟩, ⟨Chg.refl _ _⟩⟩
  case round =>
    obtain ⟨k, rfl, HI, HR, HG, HCR⟩ := hrel
    by_cases hlt : k < M
    · have hkl : k < ps.length := by rw [← HM.out]; exact hlt
      obtain ⟨xs, hx1, hx2, hx3⟩ := HV.out.chg HCR.out
      obtain ⟨y, hy1, b, off, cc, rfl, hy2⟩ := hx3 k hkl
      obtain ⟨p, hp⟩ : ∃ p, p = ps[k] := ⟨_, rfl⟩
      rw [← hp] at hy1 hy2
      have hps2 := HPS.out p (by rw [hp]; exact List.getElem_mem _)
      have HTK : Aside0 ((ps.take (k + 1)).map Value.string = (ps.take k).map Value.string ++ [.string p]) := ⟨by rw [List.take_succ_eq_append_getElem hkl, List.map_append, hp]; rfl⟩
      obtain ⟨A2, c2, e2', hc2, hA2, _⟩ := hx1.slice
      have hxl : xs.length = M := by rw [hx2, HM.out]
      injection e2' with e2' e2'' e2'''
      obtain ⟨g1, hg1⟩ := hA2 (fun e => by rw [e] at hxl; simp at hxl; omega)
      rw [hg1] at e2'
      subst e2'
      have hcell : wr.cell? ⟨g1, k, none⟩ = some (.slice (some ⟨b, off, none⟩) p.size cc) := by
        have := hx1.cell k (by omega)
        rw [this]
        rw [List.getElem?_eq_getElem (by omega)] at hy1
        exact hy1
      obtain ⟨A3, c3, e3', _⟩ := HR.out.slice
      have hl3 : ((ps.take k).map Value.string).length = k := by rw [List.length_map, List.length_take]; omega
      rw [hl3] at e3'
      subst e3'
      have hst := PRd.string (P := Tryd.prog) (c := cc) hy2 (by omega) (src := 44) (dst := 9) (e := 5) Tryd.underlying44 Tryd.underlying5 Tryd.underlying9
      have HLM : Aside0 (M ≤ 100000) := ⟨by rw [HM.out]; exact HPL.out⟩
      have HL3 := Aside0.mk hl3
      have hlm := HLM.out
      have k1 : decide ((0:Int) ≤ (k:Int)) = true := decide_eq_true (by omega)
      have k2 : decide ((k:Int) < (M:Int)) = true := decide_eq_true (by omega)
      have k3 : decide (k < M) = true := decide_eq_true hlt
      clear hy1 hx3 hx2 hxl hp hl3 hx1 hg1 hA2 e2'' e2''' hc2
      go_wp2_with (at_builtin; refine wpList_append1 rfl _ _ 22 rfl 9 (.string ⟨#[]⟩) 16 Tryd.underlying22 infoStr rfl (.slice A3 k c3) ((ps.take k).map Value.string) rfl (HR.out.chg ((Chg.refl [] wr).alloc _) (by simp)) wr.heap.size (.string p) rfl (by simp) rfl (by rw [HL3.out]; have := HLM.out; omega) (by rw [HL3.out]; unfold maxLen; have := HLM.out; omega) ?_; intro v5 w5 hr5 hc5 ho5; have HR5 := Aside0.mk hr5; have HO5 := Aside0.mk ho5; have HC5 := Aside0.mk hc5; clear hr5 hc5 ho5)
      go_roundw
      case rel => exact ⟨k + 1, by go_num, ⟨by omega⟩, ⟨by rw [HTK.out]; exact HR5.out⟩, ⟨fun g hg => by rcases HO5.out with q | q; exact HG.out g (by rw [← q]; exact hg); rw [hg] at q; have q2 : g = _ := (by injection q); rw [q2, size_alloc]; have := HCR.out.size; omega⟩, ⟨(HCR.out.alloc _).above HC5.out (fun i hi => .inr (HG.out i (by simpa using hi)))⟩⟩
      case measure => simp [intOf]; omega
    · have hk : k = ps.length := by have := HI.out; have := HM.out; omega
      have hR := HR.out
      rw [hk, List.take_length] at hR
      have HRX := Aside0.mk hR
      have k1 : decide (k < M) = false := decide_eq_false hlt
      have k2 : decide ((k:Int) < (M:Int)) = false := decide_eq_false (by omega)
      clear hk hR
      go_wp2_with fail
      go_ret
      exact ⟨_, rfl, HRX.out, HC.out.trans HCR.out, fun g hg => Nat.le_trans HC.out.size (HG.out g hg)⟩
end Go.Proofs.YthecfligfhpccaaDoor.Pa
namespace Go.Proofs.YthecfligfhpccaaDoor.P
open Go.RowKit Go.Proofs.YthecfligfhpccaaDoorW.PrintWords Go.Proofs.YthecfligfhpccaaDoor.Gn Go.Proofs.YthecfligfhpccaaDoor.Pa Go.Proofs.YthecfligfhpccaaDoor.X
def impl_Parts.f (x : ByteArray) (e a n : Bool) : Option (List ByteArray) := if x.size ≤ 1000 then some (parts x ⟨e, a, n⟩) else none
theorem impl_Parts.calls (x : ByteArray) (e a n : Bool) (r : List ByteArray) (w : World) (ht : Tabs w) (h : impl_Parts.f x e a n = some r) :
    Calls Tryd.prog 6 #[.string x, .bool e, .bool a, .bool n] w fun e w' => ∃ v0_ : Value, e = .returned v0_ ∧ Kd.R Kd.string 9 w' w.heap.size (fun _ => True) v0_ r ∧ Below w.heap.size w w' := by
  unfold impl_Parts.f at h
  split at h
  case isFalse => cases h
  rename_i hok
  injection h with h
  subst h
  refine (implParts_calls w x ⟨e, a, n⟩ hok ht).mono ?_
  rintro e w' ⟨v, rfl, hr, hc, hg⟩
  exact ⟨v, rfl, R_of_row (enc := Value.string) hr (fun g hq => ⟨hg g hq, trivial⟩), hc.toBelow (Nat.le_refl _) (by simp)⟩
end Go.Proofs.YthecfligfhpccaaDoor.P
