/- gse.FindAllOccs: the walk, the loops. -/
import Derived.Test.YthecfligfhpccaaEPlF
set_option linter.unusedVariables false
namespace Go.Proofs.Ythecfligfhpccaa.Li
open Go.RowKit Go.Proofs.YthecfligfhpccaaW.PrintWords Go.Proofs.Ythecfligfhpccaa.Gn
theorem infoI : (Try.prog.info? 3).map (fun i => (i.zero, i.size, i.bytes)) = some (some (.int .i64 0), 1, 8) := by kernel_rfl
theorem zeroRow (w : World) : (zeroValue 41).run Try.prog w = .ok (.slice none 0 0) w := by kernel_rfl
theorem makeHint (w : World) : (Instr.makeMap 59 (some (.int .i64 0))).run Try.prog w = .ok (.map (some w.heap.size)) (w.alloc (.map #[] 0)) := by kernel_rfl
theorem bytesWorld_chg (w : World) (e : TypeId) (s : ByteArray) : Chg [] w (Lib.bytesWorld w e s) := ⟨rfl, rfl, rfl, by rw [Lib.bytesWorld_size]; omega, fun i hi _ => Lib.bytesWorld_at_old w e s i hi⟩
theorem bytesWorld_C (w : World) (e : TypeId) (s : ByteArray) (hz : s.size ≤ 9223372036854775807) : Kd.C (Kd.int .u8) (Lib.bytesWorld w e s) (some ⟨w.heap.size, 0, none⟩) s.size (bytesOf s) := Kd.C_of_reads (d := 0) (h1 := fun _ => rfl) (bytes_reads w e s hz)
def foldM (s : List Int) (kw : List ByteArray) : List (ByteArray × List Int) := kw.foldl (fun D p => addAll D p (occs s (bytesOf p))) []
def FaPost (s : List Int) (kw : List ByteArray) (w : World) (e : Ending) (w' : World) : Prop := ∃ r S, e = .returned (.map (some r)) ∧ OccW w w' r S (foldM s kw)
set_option maxHeartbeats 2000000 in
set_option maxRecDepth 100000 in
theorem findAll_calls (w : World) (A0 A1 : Option Addr) (c0 c1 : Nat) (s : List Int) (kw : List ByteArray) (hr0 : Kd.C (Kd.int .u8) w A0 s.length s) (hc0 : s.length ≤ c0) (hr1 : Kd.C Kd.string w A1 kw.length kw) (hc1 : kw.length ≤ c1)
    (hs : By s) (hl : s.length ≤ 1000) (hk : kw.length ≤ 1000) (hne : ∀ p ∈ kw, 1 ≤ p.size ∧ p.size ≤ 1000) :
    Calls Try.prog 28 #[.slice A0 s.length c0, .slice A1 kw.length c1] w (FaPost s kw w) := by
  have HR0 := Aside0.mk hr0
  have HR1 := Aside0.mk hr1
  have HC0 := Aside0.mk hc0
  have HS := Aside0.mk hs
  have HL := Aside0.mk hl
  have HK := Aside0.mk hk
  have HNE := Aside0.mk hne
  have hmm := makeHint
  have HO := Aside0.mk (OccW.start w)
  clear hr0 hr1 hc1 hs hne
  go_enter Try.func28, Try.ntmps28
  go_wp2_with fail
  go_loopw [15] (fun v15 wr => ∃ (k : Nat) (S : List (ByteArray × Value)), v15 = .int .i64 k ∧ Aside0 (k ≤ kw.length) ∧ Aside0 (OccW w wr w.heap.size S (foldM s (kw.take k))) ∧ Aside0 (∀ p, ((getM (foldM s (kw.take k)) p).getD []).length ≤ 1000 * k)) (fun v15 _ => kw.length - (intOf v15).toNat)
  case atStart => exact ⟨0, [], rfl, ⟨Nat.zero_le _⟩, HO, ⟨fun p => Nat.zero_le _⟩⟩
  case round =>
    clear hmm HO
    obtain ⟨k, S, rfl, HI, HO, HB⟩ := hrel
    by_cases hlt : k < kw.length
    · obtain ⟨ad, ead, hcell⟩ := Kd.at_string (Kd.C_below HR1.out (HO.out.chg.toBelow (Nat.le_refl _) (by simp))) (k : Int) (by omega) (by omega)
      subst ead
      rw [Int.toNat_natCast] at hcell
      obtain ⟨p, hp⟩ : ∃ p, p = kw[k] := ⟨_, rfl⟩
      have hpe : Go.Proofs.YthecfligfhpccaaW.PrintWords.rdOf ByteArray.empty kw (k : Int) = p := by rw [hp]; simp [Go.Proofs.YthecfligfhpccaaW.PrintWords.rdOf, hlt]
      rw [hpe] at hcell
      have hpn := HNE.out p (by rw [hp]; exact List.getElem_mem _)
      have HFT : Aside0 (foldM s (kw.take (k + 1)) = addAll (foldM s (kw.take k)) p (occs s (bytesOf p))) := ⟨by rw [List.take_succ_eq_append_getElem hlt]; unfold foldM; rw [List.foldl_append, ← hp]; rfl⟩
      obtain ⟨D, hD⟩ : ∃ D, D = foldM s (kw.take k) := ⟨_, rfl⟩
      rw [← hD] at HO HB HFT
      clear hp hpe hD
      have k1 : decide ((0:Int) ≤ (k:Int)) = true := decide_eq_true (by omega)
      have k2 : decide ((k:Int) < (kw.length:Int)) = true := decide_eq_true (by omega)
      go_wp2_with fail
      clear hcell k1 k2
      go_loopw [9] (fun v9 wr => ∃ (i : Nat) (S : List (ByteArray × Value)) (E : List (ByteArray × List Int)), v9 = .int .i64 i ∧ Aside0 (i ≤ s.length) ∧ Aside0 (addAll E p (occ s (bytesOf p) (s.length + 1) i) = addAll D p (occs s (bytesOf p))) ∧ Aside0 (OccW w wr w.heap.size S E) ∧ Aside0 (∀ q, ((getM E q).getD []).length + i ≤ 1000 * k + s.length)) (fun v9 _ => (intOf v9).toNat)
      case atStart => exact ⟨s.length, S, D, rfl, ⟨Nat.le_refl _⟩, ⟨rfl⟩, HO, ⟨fun q => by have := HB.out q; omega⟩⟩
      case round =>
        clear HO HB
        obtain ⟨i, S, E, rfl, HI2, HE, HO, HB⟩ := hrel
        have hil := HI2.out
        obtain ⟨m, hm⟩ : ∃ m, m = lastIx (s.take i) (bytesOf p) := ⟨_, rfl⟩
        have hti : (s.take i).length = i := by rw [List.length_take]; omega
        have hbl : (bytesOf p).length = p.size := bytesOf_length p
        have HLI : Aside0 (∀ (W : World) (B : Option Addr) (cb cc : Nat), Kd.C (Kd.int .u8) W A0 s.length s → Kd.C (Kd.int .u8) W B p.size (bytesOf p) → p.size ≤ cb → i ≤ cc → Calls Try.prog 35 #[.slice A0 i cc, .slice B p.size cb] W fun e w' => e = .returned (.int .i64 m) ∧ Drawn0 W w') := ⟨fun W B cb cc h1 h2 h3 h4 => by
          have h5 := Kd.C_take h1 hil
          rw [← hbl] at h2
          have h6 := li_calls W A0 B cc cb (s.take i) (bytesOf p) h5 (by rw [hti]; exact h4) h2 (by rw [hbl]; exact h3) (HS.out.take i) (by_bytes p) (by rw [hbl]; exact hpn.1) (by rw [hti]; omega) (by rw [hbl]; omega)
          rwa [hti, hbl, ← hm] at h6⟩
        have hrg := lastIx_range (s.take i) (bytesOf p)
        rw [← hm, hti, hbl] at hrg
        have HHB := Aside0.mk (HO.out.chg.toBelow (Nat.le_refl _) (by simp))
        have k3 : (i : Int) ≤ (c0 : Int) := by omega
        have k4 : i ≤ c0 := by omega
        have k5 : decide ((0 : Int) ≤ (i : Int)) = true := decide_eq_true (by omega)
        have hocc : occ s (bytesOf p) (s.length + 1) i = if m = -1 then [] else m :: occ s (bytesOf p) s.length m.toNat := by rw [hm]; rfl
        have HOCC := Aside0.mk hocc
        have hbz := print_bytes (P := Try.prog) 9 46 5 Try.underlying9 Try.underlying46 Try.underlying5 p
        have HC2 := Aside0.mk (bytesWorld_chg wr 5 p)
        have HCV := Aside0.mk (HLI.out (Lib.bytesWorld wr 5 p) _ (grownCap wr p.size 0 5) c0 (Kd.C_below (Kd.C_below HR0.out HHB.out) (HC2.out.toBelow (Nat.le_refl _) (by simp))) (bytesWorld_C wr 5 p (by omega)) (grownCap_ge _ _ _ _) k4)
        clear hm hocc hti hbl HLI HHB
        rcases hrg with hm1 | ⟨hm1, hm2, _⟩
        · subst hm1
          have HE2 : Aside0 (E = addAll D p (occs s (bytesOf p))) := ⟨by have := HE.out; rw [HOCC.out, if_pos rfl] at this; exact this⟩
          have HB2 : Aside0 (∀ q, ((getM E q).getD []).length ≤ 1000 * (k + 1)) := ⟨fun q => by have := HB.out q; omega⟩
          clear HE HB HOCC
          go_wp2_with (go_at_call 35; refine HCV.out.mono ?_; rintro e w3 ⟨rfl, hd3⟩; have HC3 : Aside0 (Chg [] wr w3) := ⟨by obtain ⟨n, rfl⟩ := hd3; exact HC2.out.drewN n⟩; clear hd3 HCV)
          have hc3 := HC3.out
          go_roundw
          case rel => exact ⟨k + 1, S, by go_num, ⟨by omega⟩, ⟨by rw [HFT.out, ← HE2.out]; exact HO.out.step hc3⟩, ⟨by rw [HFT.out, ← HE2.out]; exact HB2.out⟩⟩
          case measure => simp [intOf]; omega
        · obtain ⟨j, rfl⟩ : ∃ j : Nat, m = (j : Int) := ⟨m.toNat, by omega⟩
          have hji : j + p.size ≤ i := by omega
          have HE2 : Aside0 (addAll (addM E p j) p (occ s (bytesOf p) (s.length + 1) j) = addAll D p (occs s (bytesOf p))) := ⟨by
            have := HE.out
            rw [HOCC.out, if_neg (by omega), Int.toNat_natCast, occ_enough s (bytesOf p) (by rw [bytesOf_length]; omega) s.length j (by omega) (by omega)] at this
            exact this⟩
          have HB2 : Aside0 (∀ q, ((getM (addM E p j) q).getD []).length + j ≤ 1000 * k + s.length) := ⟨fun q => by
            have h1 := HB.out q
            unfold addM
            rw [getM_putM]
            by_cases e : q = p
            · rw [if_pos e]; subst e; simp; omega
            · rw [if_neg e]; omega⟩
          obtain ⟨L, hL⟩ : ∃ L, L = (getM E p).getD [] := ⟨_, rfl⟩
          have hLl : L.length ≤ 1000 * k + s.length := by rw [hL]; have := HB.out p; omega
          have hLl2 : 1000 * k ≤ 1000000 := by have := HI.out; omega
          have hlk := HO.out.look p
          rw [← hL] at hlk
          obtain ⟨A4, c4, e4, _⟩ := hlk.slice
          obtain ⟨n4, hn4⟩ : ∃ n4, n4 = (L.map (Value.int .i64)).length := ⟨_, rfl⟩
          rw [← hn4] at e4
          have hown4 : ∀ g, (Value.slice A4 n4 c4).ownBlock = some g → g ≠ w.heap.size := fun g hg => by
            rw [← e4] at hg
            cases hq : getL S p with
            | none => rw [hq] at hg; cases hg
            | some v => rw [hq] at hg; exact (HO.out.own p v hq g hg).2
          have HLK := Aside0.mk hlk
          have HLV := Aside0.mk e4
          have HOW4 := Aside0.mk hown4
          have HLE := Aside0.mk hL
          have HJ1 : ((j : Int) == -1) = false := beq_eq_false_iff_ne.2 (by omega)
          clear HE HB HOCC hL hlk e4 hn4 hown4 hm1 hm2
          go_wp2_with (first | (go_at_call 35; refine HCV.out.mono ?_; rintro e w3 ⟨rfl, hd3⟩; have HC3 : Aside0 (Chg [] wr w3) := ⟨by obtain ⟨n, rfl⟩ := hd3; exact HC2.out.drewN n⟩; have HO3 := Aside0.mk (HO.out.step HC3.out); have HR3 := Aside0.mk (HLK.out.chg HC3.out (by simp)); clear hd3 HCV) | (at_lookup; refine wpList_lookup rfl _ _ _ false rfl rfl p rfl HO3.out.mp.at (keyStr Try.underlying9) Try.underlying59 (.slice none 0 0) zeroRow ?_; rw [if_neg (by decide), HLV.out]) | (at_builtin; refine wpList_append1 rfl _ _ 41 rfl 3 (.int .i64 0) 8 Try.underlying41 infoI rfl (.slice A4 n4 c4) (L.map (Value.int .i64)) rfl ?c1 w3.heap.size (.int .i64 j) rfl ?c2 rfl ?c3 ?c4 ?_; (case c1 => exact ((by rw [← HLV.out]; exact HR3.out : ORow w3 3 (.slice A4 n4 c4) (L.map (Value.int .i64))).chg ((Chg.refl [] w3).alloc _) (by simp))); (case c2 => simp); (case c3 => (rw [List.length_map]; omega)); (case c4 => (rw [List.length_map]; unfold maxLen; omega)); intro v5 w5 hr5 hc5 ho5; have HR5 := Aside0.mk hr5; have HC5 := Aside0.mk hc5; have HO5 := Aside0.mk ho5; have HM5 : Aside0 (MapB w5 w.heap.size Value.string S) := ⟨HO3.out.mp.chg (((Chg.refl _ w3).alloc _).trans hc5) (by intro hmem; exact HOW4.out _ (by simpa using hmem) rfl)⟩; clear hr5 hc5 ho5) | (at_mapUpdate; refine wpList_mapUpdateB rfl _ _ _ 59 rfl rfl p rfl v5 rfl HM5.out (keyStr Try.underlying9) Try.underlying59 ?_; intro w6 hm6 hc6 hz6; have HM6 := Aside0.mk hm6; have HC6 := Aside0.mk hc6; clear hm6 hc6 hz6))
          simp only [Act.put, List.setIfInBounds_toArray, List.set_cons_succ, List.set_cons_zero]
          go_roundw
          case rel => exact ⟨j, _, _, by go_num, ⟨by omega⟩, HE2, ⟨HO3.out.add p j _ v5 (by rw [← HLE.out]; exact HR5.out) (by rw [HLV.out]; exact HC5.out) (by rw [HLV.out]; exact HO5.out) HM6.out HC6.out⟩, HB2⟩
          case measure => simp [intOf]; omega
    · have hk : k = kw.length := by have := HI.out; omega
      have hO := HO.out
      rw [hk, List.take_length] at hO
      have HOX := Aside0.mk hO
      have k2 : decide ((k:Int) < (kw.length:Int)) = false := decide_eq_false (by omega)
      have k3 : decide (k < kw.length) = false := decide_eq_false hlt
      clear hk hO
      go_wp2_with fail
      go_ret
      exact ⟨_, _, rfl, HOX.out⟩
end Go.Proofs.Ythecfligfhpccaa.Li
