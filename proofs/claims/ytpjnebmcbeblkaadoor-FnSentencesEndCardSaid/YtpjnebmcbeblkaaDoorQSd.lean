/- filter.ZzSentences: the walk. impl.SentencesUsual, impl.Sentences: the walks. impl.SentencesUsual, impl.Sentences: their contracts for the laws' prints. -/
import Derived.Test.YtpjnebmcbeblkaaDoorEScB
import Derived.Test.YtpjnebmcbeblkaaDoorQSc
import Derived.Test.YtpjnebmcbeblkaaDoorQSb
set_option linter.unusedVariables false
namespace Go.Proofs.YtpjnebmcbeblkaaDoor.Sn
open Go.RowKit Go.Lib Go.Proofs.YtpjnebmcbeblkaaDoorW.PrintWords Go.Proofs.YtpjnebmcbeblkaaDoor.Gn Go.Proofs.YtpjnebmcbeblkaaDoor.X
def lenV : Value → Nat
  | .slice _ n _ => n
  | _ => 0
theorem run_none (sp : ByteArray → Bool → Out) (ph : Nat) (d : ByteArray) (h : (run sp ph d).1 = none) : (run sp ph d).2.1 = 2 := by
  have hC : ∀ d, (goC sp d).1 = none → (goC sp d).2.1 = 2 := fun d h => by
    unfold goC at h ⊢
    split
    · rfl
    · rfl
  have hB : ∀ d, (goB sp d).1 = none → (goB sp d).2.1 = 2 := fun d h => by
    unfold goB at h ⊢
    by_cases h0 : d.size = 0
    · rw [if_pos h0] at h ⊢; exact hC d h
    · rw [if_neg h0] at h ⊢
      cases ht : (sp d false).tok with
      | none => rw [ht] at h; exact hC _ h
      | some x => rw [ht] at h; cases h
  match ph, h with
  | 0, h =>
    rw [run, goA] at h ⊢
    by_cases h0 : d.size = 0
    · rw [if_pos h0] at h ⊢; exact hC d h
    · rw [if_neg h0] at h ⊢; exact hB d h
  | 1, h => exact hB d h
  | n + 2, h => exact hC d h
def nextToks (sp : ByteArray → Bool → Out) (k : Nat) : Option ByteArray × Nat × ByteArray → List ByteArray
  | (some t, ph', d') => t :: toks sp k ph' d'
  | (none, _, _) => []
theorem toks_succ (sp : ByteArray → Bool → Out) (k ph : Nat) (d : ByteArray) : toks sp (k + 1) ph d = nextToks sp k (run sp ph d) := by
  rw [toks]
  rcases run sp ph d with ⟨_ | t, ph', d'⟩ <;> rfl
theorem infoStrZ : (Tryd.prog.info? 9).map (fun i => (i.zero, i.size, i.bytes)) = some (some (.string ⟨#[]⟩), 1, 16) := by kernel_rfl
def spA (o : Sp) (g0 g1 c0 c1 : Nat) : Array Value := #[.slice (some ⟨g0, 0, none⟩) o.ends.length c0, .slice (some ⟨g1, 0, none⟩) o.fol.length c1, .bool o.skip, .bool o.lines, .int .i64 o.max]
theorem split26 (w : World) {o : Sp} {g0 g1 c0 c1 : Nat} (hR : Rd o (some ⟨g0, 0, none⟩) (some ⟨g1, 0, none⟩) c0 c1 w) (hT : Tabs w) :
    Split w (.func (.func 26) #[.agg (spA o g0 g1 c0 c1)] #[]) (call o) where
  call W hB b M off cap d eof hw hb hc hd := .inl ⟨spA o g0 g1 c0 c1, rfl, scan_calls W b M off cap d (some ⟨g0, 0, none⟩) (some ⟨g1, 0, none⟩) c0 c1 o eof hw (by omega) hc (fun W' hW' => by
    have hb' : Below w.heap.size w W' := ((Chg.below (x := w) hB).above hW' (fun i hi => .inr (by simp at hi; omega))).toBelow (Nat.le_refl _) (by simp)
    exact ⟨hR.below hb', hT.below hb'⟩)⟩
  adv := call_adv o
  pos := call_pos o
theorem split39 (w : World) (hT : Tabs w) : Split w (.func (.func 39) #[] #[]) (call usual) where
  call W hB b M off cap d eof hw hb hc hd := .inr ⟨rfl, usual_calls W b M off cap d eof hw (by omega) hc (fun W' hW' => by
    have hb' : Below w.heap.size w W' := ((Chg.below (x := w) hB).above hW' (fun i hi => .inr (by simp at hi; omega))).toBelow (Nat.le_refl _) (by simp)
    exact hT.below hb')⟩
  adv := call_adv usual
  pos := call_pos usual
theorem PhS.imp {W : World} {g gp : Nat} {F tok : Value} {K K' : Nat → Prop} {ea : Addr} {ph : Nat} {d : ByteArray} (h : PhS W g gp F tok K ea ph d) (hk : ∀ i, i < W.heap.size → K i → K' i) : PhS W g gp F tok K' ea ph d := by
  rcases h with ⟨e, h⟩ | ⟨e, gb, st, en, emp, called, h1, h2, h3, h4, h5, h6, h7⟩ | ⟨e, gb, st, en, emp, called, h1, h2, h3, h4, h5, h6, h7⟩
  · exact .inl ⟨e, h⟩
  · exact .inr (.inl ⟨e, gb, st, en, emp, called, h1, h2, h3, h4, h5, hk gb h2.lt h6, h7⟩)
  · exact .inr (.inr ⟨e, gb, st, en, emp, called, h1, h2, h3, h4, h5, hk gb h2.lt h6, h7⟩)
theorem PhS.keep {W W' : World} {g gp : Nat} {F tok : Value} {K : Nat → Prop} {ea : Addr} {ph : Nat} {d : ByteArray} {S : List Nat} (h : PhS W g gp F tok K ea ph d) (hc : Chg S W W') (hg : g ∉ S) (hgp : gp ∉ S) (hk : ∀ i ∈ S, ¬ K i) (ht : ph ≠ 0) : PhS W' g gp F tok K ea ph d := by
  rcases h with ⟨e, _⟩ | ⟨e, gb, st, en, emp, called, h1, h2, ⟨T, c, h3⟩, h4, h5, h6, h7⟩ | ⟨e, gb, st, en, emp, called, h1, h2, ⟨T, c, h3⟩, h4, h5, h6, h7⟩
  · exact absurd e ht
  · exact .inr (.inl ⟨e, gb, st, en, emp, called, h1.chg hc hg, h2.chg hc (fun m => hk gb m h6), ⟨T, c, h3.chg hc hgp⟩, h4, h5, h6, h7⟩)
  · exact .inr (.inr ⟨e, gb, st, en, emp, called, h1.chg hc hg, h2.chg hc (fun m => hk gb m h6), ⟨T, c, h3.chg hc hgp⟩, h4, h5, h6, h7⟩)
theorem run_ph (sp : ByteArray → Bool → Out) (ph : Nat) (d : ByteArray) : (run sp ph d).2.1 ≠ 0 := by
  have hC : ∀ d, (goC sp d).2.1 ≠ 0 := fun d => by unfold goC; split <;> simp
  have hB : ∀ d, (goB sp d).2.1 ≠ 0 := fun d => by
    unfold goB
    split
    · exact hC d
    · split
      · simp
      · exact hC _
  match ph with
  | 0 => rw [run, goA]; split; exact hC d; exact hB d
  | 1 => exact hB d
  | n + 2 => exact hC d
set_option maxHeartbeats 4000000 in
set_option maxRecDepth 100000 in
theorem zzGiven_calls (w : World) (s : ByteArray) (gs : Nat) (o : Sp) (g0 g1 c0 c1 : Nat) (ea : Addr) (hs : s.size ≤ 1000) (hbox : w.heap[gs]? = some (.cells (spA o g0 g1 c0 c1) 52 (0, 0))) (hR : Rd o (some ⟨g0, 0, none⟩) (some ⟨g1, 0, none⟩) c0 c1 w) (hT : Tabs w) (hE : Eof w ea) :
    Calls Tryd.prog 29 #[.string s, .pointer (some ⟨gs, 0, none⟩), .slice none 0 0] w fun e W => ∃ v, e = .returned (.tuple #[v, .nilIface]) ∧ ORow W 9 v ((toks (call o) (s.size + 1) 0 s).map Value.string) ∧ Chg [] w W ∧ ∀ g, v.ownBlock = some g → w.heap.size ≤ g := by
  have hbz := print_bytes (P := Tryd.prog) 9 46 5 Tryd.underlying9 Tryd.underlying46 Tryd.underlying5 s
  have hmf : ∀ (fn : Fn) (first cap : Array Value) (w : World), (Instr.makeFunc fn first cap).run Tryd.prog w = .ok (.func fn first cap) w := fun _ _ _ _ => rfl
  obtain ⟨wb, hwb⟩ : ∃ wb, wb = Lib.bytesWorld w 5 s := ⟨_, rfl⟩
  obtain ⟨cap, hcap⟩ : ∃ cap, cap = grownCap w s.size 0 5 := ⟨_, rfl⟩
  have hzb : wb.heap.size = w.heap.size + 1 := by rw [hwb, Lib.bytesWorld_size]
  have hcb : Chg [] w wb := by rw [hwb]; exact bytes_chg w s
  have hwin := bytes_Win w s
  rw [← hwb] at hwin
  have hle : s.size ≤ cap := by rw [hcap]; exact grownCap_ge _ _ _ _
  have hbz1 : (convert 9 46 (.string s)).run Tryd.prog w = .ok (.slice (some ⟨w.heap.size, 0, none⟩) s.size cap) wb := by rw [hbz, ← hwb, ← hcap]
  clear hbz hwb hcap
  obtain ⟨M, hM⟩ : ∃ M, M = (Lib.bytesCells w 5 s).size := ⟨_, rfl⟩
  rw [← hM] at hwin
  clear hM
  have HNEW : Aside0 (Calls Tryd.prog 37 #[.iface 65 (.pointer (some ⟨wb.heap.size + 1, 0, none⟩))] ((wb.alloc (.cells #[] 3)).alloc (.cells #[.slice (some ⟨w.heap.size, 0, none⟩) s.size cap, .slice (some ⟨wb.heap.size, 0, none⟩) 0 0] 67)) fun e w2 => e = .returned (.pointer (some ⟨w.heap.size + 3, 0, none⟩)) ∧ Chg [] w w2 ∧ Sc w2 (w.heap.size + 3) (w.heap.size + 2) splitLines (.slice none 0 0) (.slice none 0 0) .nilIface 0 0 0 false ∧ Pc w2 (w.heap.size + 2) (.slice (some ⟨w.heap.size, 0, none⟩) s.size cap) ∧ Win w2 w.heap.size M 0 s) := ⟨by
    have hn := new_calls ((wb.alloc (.cells #[] 3)).alloc (.cells #[.slice (some ⟨w.heap.size, 0, none⟩) s.size cap, .slice (some ⟨wb.heap.size, 0, none⟩) 0 0] 67)) (wb.heap.size + 1)
    have hz : ((wb.alloc (.cells #[] 3)).alloc (.cells #[.slice (some ⟨w.heap.size, 0, none⟩) s.size cap, .slice (some ⟨wb.heap.size, 0, none⟩) 0 0] 67)).heap.size = w.heap.size + 3 := by rw [size_alloc, size_alloc, hzb]
    rw [hz] at hn
    have hcc : Chg [] w ((wb.alloc (.cells #[] 3)).alloc (.cells #[.slice (some ⟨w.heap.size, 0, none⟩) s.size cap, .slice (some ⟨wb.heap.size, 0, none⟩) 0 0] 67)) := (hcb.alloc _).alloc _
    have hp : ((wb.alloc (.cells #[] 3)).alloc (.cells #[.slice (some ⟨w.heap.size, 0, none⟩) s.size cap, .slice (some ⟨wb.heap.size, 0, none⟩) 0 0] 67)).heap[w.heap.size + 2]? = some (.cells #[.slice (some ⟨w.heap.size, 0, none⟩) s.size cap, .slice (some ⟨wb.heap.size, 0, none⟩) 0 0] 67 (0, 0)) := by
      have := heap_alloc_new (wb.alloc (.cells #[] 3)) (.cells #[.slice (some ⟨w.heap.size, 0, none⟩) s.size cap, .slice (some ⟨wb.heap.size, 0, none⟩) 0 0] 67)
      rw [size_alloc, show wb.heap.size + 1 = w.heap.size + 2 by omega] at this
      exact this
    refine hn.mono ?_
    rintro e w2 ⟨rfl, h1, h2⟩
    rw [show wb.heap.size + 1 = w.heap.size + 2 by omega] at h1
    exact ⟨rfl, hcc.trans h2, h1, ⟨_, _, (h2.block _ (by rw [hz]; omega) (by simp)).trans hp⟩, ((hwin.alloc _).alloc _).chg h2 (by simp)⟩⟩
  have HBOX := Aside0.mk hbox
  have HSP := Aside0.mk (split26 w hR hT)
  have HE := Aside0.mk hE
  have HLE := Aside0.mk hle
  have HGS : Aside0 (gs < w.heap.size) := ⟨(Array.getElem?_eq_some_iff.1 hbox).1⟩
  have HTL := Aside0.mk (toks_length o (s.size + 1) 0 s)
  obtain ⟨T, hT2⟩ : ∃ T, T = toks (call o) (s.size + 1) 0 s := ⟨_, rfl⟩
  rw [← hT2] at HTL
  rw [← hT2]
  have HTT := Aside0.mk hT2
  clear hbox hR hT hE hle hzb hcb hwin hT2
  unfold spA at HSP HBOX
  go_enter Tryd.func29, Tryd.ntmps29
  go_wp2_with (first
    | (go_at_call 37; refine HNEW.out.mono ?_; rintro e w2 ⟨rfl, hc2, hs2, hp2, hw2⟩; have hbx := (hc2.block gs HGS.out (by simp)).trans HBOX.out; have y0 := cell_of (i := 0) hbx rfl; have y1 := cell_of (i := 1) hbx rfl; have y2 := cell_of (i := 2) hbx rfl; have y3 := cell_of (i := 3) hbx rfl; have y4 := cell_of (i := 4) hbx rfl; have HC2 := Aside0.mk hc2; have HS2 := Aside0.mk hs2; have HP2 := Aside0.mk hp2; have HW2 := Aside0.mk hw2; clear hc2 hs2 hp2 hw2 hbx HNEW)
    | (go_at_call 38; refine (split_calls HS2.out _ _ _).mono ?_; rintro e w3 ⟨rfl, hs3, hc3⟩; have HC3 := Aside0.mk hc3; have HS3 := Aside0.mk hs3; clear hs3 hc3))
  have HB3 : Aside0 (Below w.heap.size w w3) := ⟨((Chg.below (x := w) (HC2.out.toBelow (Nat.le_refl _) (by simp))).above HC3.out (fun i hi => .inr (by simp at hi; omega))).toBelow (Nat.le_refl _) (by simp)⟩
  have HP3 : Aside0 (PhS w3 (w.heap.size + 3) (w.heap.size + 2) (.func (.func 26) #[.agg #[.slice (some ⟨g0, 0, none⟩) o.ends.length c0, .slice (some ⟨g1, 0, none⟩) o.fol.length c1, .bool o.skip, .bool o.lines, .int .i64 o.max]] #[]) (.slice none 0 0) (fun j => w.heap.size ≤ j ∧ (Value.slice none 0 0).ownBlock ≠ some j) ea 0 s) := ⟨.inl ⟨rfl, w.heap.size, M, cap, false, HS3.out, HP2.out.chg HC3.out (by simp), HLE.out, HW2.out.chg HC3.out (by simp), by omega, by omega, trivial, hs⟩⟩
  clear HC2 HS2 HP2 HW2 HC3 HS3 HLE HBOX y0 y1 y2 y3 y4
  go_loopw [9] (fun v9 wr => ∃ i k ph d tok, Aside0 (Below w.heap.size w wr) ∧ Aside0 (PhS wr (w.heap.size + 3) (w.heap.size + 2) (.func (.func 26) #[.agg #[.slice (some ⟨g0, 0, none⟩) o.ends.length c0, .slice (some ⟨g1, 0, none⟩) o.fol.length c1, .bool o.skip, .bool o.lines, .int .i64 o.max]] #[]) tok (fun j => w.heap.size ≤ j ∧ v9.ownBlock ≠ some j) ea ph d) ∧ Aside0 (d.size < k) ∧ Aside0 (T.drop i = toks (call o) k ph d) ∧ Aside0 (i ≤ T.length) ∧ Aside0 (ORow wr 9 v9 ((T.take i).map Value.string)) ∧ Aside0 (∀ b, v9.ownBlock = some b → w.heap.size ≤ b ∧ b ≠ w.heap.size + 3 ∧ b ≠ w.heap.size + 2)) (fun v9 _ => T.length - lenV v9)
  case atStart => exact ⟨0, s.size + 1, 0, s, _, HB3, HP3, ⟨Nat.lt_succ_self _⟩, ⟨HTT.out⟩, ⟨Nat.zero_le _⟩, ⟨ORow.nil _ _⟩, ⟨fun b hb => by cases hb⟩⟩
  case round =>
    clear HB3 HP3
    obtain ⟨i, k, ph, d, tok, HB, HP, HK, HD, HI, HR, HO⟩ := hrel
    obtain ⟨A3, c3, e3, _⟩ := HR.out.slice
    have hl3 : ((T.take i).map Value.string).length = i := by rw [List.length_map, List.length_take]; have := HI.out; omega
    rw [hl3] at e3
    subst e3
    have HL3 := Aside0.mk hl3
    clear hl3
    have hsc := scanner_calls w wr (w.heap.size + 3) (w.heap.size + 2) (fun j => w.heap.size ≤ j ∧ (Value.slice A3 i c3).ownBlock ≠ some j) (.func (.func 26) #[.agg #[.slice (some ⟨g0, 0, none⟩) o.ends.length c0, .slice (some ⟨g1, 0, none⟩) o.fol.length c1, .bool o.skip, .bool o.lines, .int .i64 o.max]] #[]) tok ea (call o) HSP.out HE.out ph d HB.out (by omega) (by omega) (by omega) (HP.out.imp (fun j _ h => ⟨h.1, .inl h⟩))
    obtain ⟨R, hR⟩ : ∃ R, R = run (call o) ph d := ⟨_, rfl⟩
    have HRN : Aside0 (R.1 = none → R.2.1 = 2) := ⟨by rw [hR]; exact run_none _ ph d⟩
    have HR0 : Aside0 (R.2.1 ≠ 0) := ⟨by rw [hR]; exact run_ph _ ph d⟩
    have HRL : Aside0 (∀ t, R.1 = some t → R.2.2.size < d.size) := ⟨fun t ht => by rw [hR] at ht ⊢; exact run_less o ph d t _ _ (by rw [← ht])⟩
    have HTD : Aside0 (T.drop i = nextToks (call o) (k - 1) R) := ⟨by
      have h1 := HD.out
      have hk := HK.out
      obtain ⟨k, rfl⟩ : ∃ k', k = k' + 1 := ⟨k - 1, by omega⟩
      rw [h1, toks_succ, hR]
      rfl⟩
    rw [← hR] at hsc
    have HSC := Aside0.mk hsc
    clear hsc hR HP HD
    obtain ⟨r1, ph', d'⟩ := R
    have HKEEP : Aside0 (∀ w1, Bl w wr (w.heap.size + 3) (w.heap.size + 2) (fun j => w.heap.size ≤ j ∧ (Value.slice A3 i c3).ownBlock ≠ some j) w1 → ORow w1 9 (.slice A3 i c3) ((T.take i).map Value.string)) := ⟨fun w1 hb => by
      rcases HR.out.parts with ⟨e1, e2⟩ | ⟨g2, cp, cur, e1, q2, q3, q4, q5, q6⟩
      · rw [e1, e2]; exact ORow.nil _ _
      · rw [e1]
        have ho := HO.out g2 (by rw [e1]; rfl)
        exact ORow.of ((hb.frame g2 (Array.getElem?_eq_some_iff.1 q2).1 ho.2.1 ho.2.2 (fun h => h.2 (by rw [e1]; rfl))).trans q2) q3 q4 q5 q6⟩
    cases r1 with
    | none =>
      have HT2 : Aside0 (T.take i = T) := ⟨by
        have h1 : T.drop i = [] := HTD.out
        have h2 := List.take_append_drop i T
        rw [h1, List.append_nil] at h2
        exact h2⟩
      have HPH : Aside0 (ph' = 2) := ⟨HRN.out rfl⟩
      clear HTD HRN HR0 HRL
      go_wp2_with (first
        | (go_at_call 40; refine HSC.out.mono ?_; rintro e w4 ⟨rfl, hbl, tok', hph, htk⟩; have HBL := Aside0.mk hbl; have HPH4 := Aside0.mk hph; have HERR : Aside0 (Calls Tryd.prog 42 #[.pointer (some ⟨w.heap.size + 3, 0, none⟩)] w4 fun e W' => e = .returned .nilIface ∧ Chg [] w4 W') := ⟨by rcases HPH4.out with ⟨e, _⟩ | ⟨e, _⟩ | ⟨_, gb, st, en, emp, called, h1, _⟩; exact absurd (e.symm.trans HPH.out) (by decide); exact absurd (e.symm.trans HPH.out) (by decide); exact err_calls h1 (HE.out.below HBL.out.below)⟩; clear hbl hph htk HSC)
        | (go_at_call 42; refine HERR.out.mono ?_; rintro e w5 ⟨rfl, hc5⟩; have HC5 := Aside0.mk hc5; clear hc5 HERR))
      go_ret2
      refine ⟨.slice A3 i c3, rfl, ?_, ?_, fun b hb => (HO.out b hb).1⟩
      · have := (HKEEP.out w4 HBL.out).chg HC5.out (by simp)
        rw [HT2.out] at this
        exact this
      · exact (Chg.below (x := w) HBL.out.below).trans HC5.out
    | some t =>
      have HT1 : Aside0 (i < T.length ∧ T.take (i + 1) = T.take i ++ [t] ∧ T.drop (i + 1) = toks (call o) (k - 1) ph' d') := ⟨by
        have h1 : T.drop i = t :: toks (call o) (k - 1) ph' d' := HTD.out
        have h2 : T[i]? = some t := by
          have := List.getElem?_drop (xs := T) (i := i) (j := 0)
          rw [h1] at this
          simpa using this.symm
        have h3 : i < T.length := (List.getElem?_eq_some_iff.1 h2).1
        refine ⟨h3, by rw [List.take_add_one, h2]; rfl, ?_⟩
        have h4 : T.drop (i + 1) = (T.drop i).drop 1 := by rw [List.drop_drop]
        rw [h4, h1]
        rfl⟩
      have HLM := HTL
      clear HTD HRN
      go_wp2_with (first
        | (go_at_call 40; refine HSC.out.mono ?_; rintro e w4 ⟨rfl, hbl, tok', hph, htk⟩; have HBL := Aside0.mk hbl; have HPH4 := Aside0.mk hph; have HTX : Aside0 (Calls Tryd.prog 41 #[.pointer (some ⟨w.heap.size + 3, 0, none⟩)] w4 fun e W' => e = .returned (.string t) ∧ W' = w4) := ⟨by rcases HPH4.out with ⟨_, gt, M2, c, called, h1, _⟩ | ⟨_, gb, st, en, emp, called, h1, _⟩ | ⟨_, gb, st, en, emp, called, h1, _⟩ <;> exact text_calls h1 t (htk t rfl)⟩; have HR4 := Aside0.mk (HKEEP.out w4 hbl); clear hbl hph htk HSC HKEEP)
        | (go_at_call 41; refine HTX.out.mono ?_; rintro e w4 ⟨rfl, rfl⟩; clear HTX)
        | (at_builtin; refine wpList_append1 rfl _ _ 28 rfl 9 (.string ⟨#[]⟩) 16 Tryd.underlying28 infoStrZ rfl (.slice A3 i c3) ((T.take i).map Value.string) rfl (HR4.out.chg ((Chg.refl [] _).alloc _) (by simp)) _ (.string t) rfl (by simp) rfl (by rw [HL3.out]; have := HLM.out; have := HT1.out.1; omega) (by rw [HL3.out]; unfold maxLen; have := HLM.out; have := HT1.out.1; omega) ?_; intro v5 w5 hr5 hc5 ho5; have HR5 := Aside0.mk hr5; have HO5 := Aside0.mk ho5; have HC5 := Aside0.mk hc5; clear hr5 hc5 ho5))
      have HKQ : ∀ j, j < w4.heap.size → Okb w wr (fun j => w.heap.size ≤ j ∧ (Value.slice A3 i c3).ownBlock ≠ some j) j → (w.heap.size ≤ j ∧ (Value.slice A3 i c3).ownBlock ≠ some j) ∧ v5.ownBlock ≠ some j := fun j hj h => by
        have h1 : (Value.slice A3 i c3).ownBlock ≠ some j := by
          rcases h.2 with q | q
          · exact q.2
          · intro e
            have := (HR.out.block e).1
            omega
        refine ⟨⟨h.1, h1⟩, fun e => ?_⟩
        rcases HO5.out with q | q
        · exact h1 (by rw [← q]; exact e)
        · rw [e] at q
          have q2 : j = _ := (by injection q)
          rw [size_alloc] at q2
          omega
      have HGL : w.heap.size + 3 < w4.heap.size := by
        rcases HPH4.out with ⟨_, gt, M2, c, called, h1, _⟩ | ⟨_, gb, st, en, emp, called, h1, _⟩ | ⟨_, gb, st, en, emp, called, h1, _⟩ <;> exact h1.lt
      have HPN : PhS w5 (w.heap.size + 3) (w.heap.size + 2) (.func (.func 26) #[.agg #[.slice (some ⟨g0, 0, none⟩) o.ends.length c0, .slice (some ⟨g1, 0, none⟩) o.fol.length c1, .bool o.skip, .bool o.lines, .int .i64 o.max]] #[]) tok' (fun j => w.heap.size ≤ j ∧ v5.ownBlock ≠ some j) ea ph' d' := by
        have h1 := (HPH4.out.imp (fun j hj h => HKQ j hj h)).chg0 ((Chg.refl [] w4).alloc (.cells #[.string t] 9))
        refine (h1.keep HC5.out ?_ ?_ ?_ HR0.out).imp (fun j _ h => ⟨h.1.1, h.2⟩)
        · intro m
          have := HO.out _ (by simpa using m)
          omega
        · intro m
          have := HO.out _ (by simpa using m)
          omega
        · intro j m h
          exact h.1.2 (by simpa using m)
      have HBN : Below w.heap.size w w5 := (((Chg.below (x := w) HBL.out.below).alloc _).above HC5.out (fun j m => .inr (HO.out _ (by simpa using m)).1)).toBelow (Nat.le_refl _) (by simp)
      have HON : ∀ b, v5.ownBlock = some b → w.heap.size ≤ b ∧ b ≠ w.heap.size + 3 ∧ b ≠ w.heap.size + 2 := fun b hb => by
        rcases HO5.out with q | q
        · exact HO.out b (by rw [← q]; exact hb)
        · rw [hb] at q
          have q2 : b = _ := (by injection q)
          rw [size_alloc] at q2
          omega
      refine ⟨⟨i + 1, k - 1, ph', d', tok', ⟨HBN⟩, ⟨HPN⟩, ⟨by have h1 : d'.size < d.size := HRL.out t rfl; have := HK.out; omega⟩, ⟨HT1.out.2.2⟩, ⟨HT1.out.1⟩, ⟨by rw [HT1.out.2.1, List.map_append]; exact HR5.out⟩, ⟨HON⟩⟩, ?_⟩
      obtain ⟨A5, c5, e5, _⟩ := HR5.out.slice
      have hl5 : ((T.take i).map Value.string ++ [Value.string t]).length = i + 1 := by rw [List.length_append, HL3.out]; rfl
      rw [hl5] at e5
      rw [e5]
      have := HT1.out.1
      simp only [lenV]
      omega
set_option maxHeartbeats 4000000 in
set_option maxRecDepth 100000 in
theorem zzUsual_calls (w : World) (s : ByteArray) (ea : Addr) (hs : s.size ≤ 1000) (hT : Tabs w) (hE : Eof w ea) :
    Calls Tryd.prog 29 #[.string s, .pointer none, .slice none 0 0] w fun e W => ∃ v, e = .returned (.tuple #[v, .nilIface]) ∧ ORow W 9 v ((toks (call usual) (s.size + 1) 0 s).map Value.string) ∧ Chg [] w W ∧ ∀ g, v.ownBlock = some g → w.heap.size ≤ g := by
  have hbz := print_bytes (P := Tryd.prog) 9 46 5 Tryd.underlying9 Tryd.underlying46 Tryd.underlying5 s
  have hmf : ∀ (fn : Fn) (first cap : Array Value) (w : World), (Instr.makeFunc fn first cap).run Tryd.prog w = .ok (.func fn first cap) w := fun _ _ _ _ => rfl
  obtain ⟨wb, hwb⟩ : ∃ wb, wb = Lib.bytesWorld w 5 s := ⟨_, rfl⟩
  obtain ⟨cap, hcap⟩ : ∃ cap, cap = grownCap w s.size 0 5 := ⟨_, rfl⟩
  have hzb : wb.heap.size = w.heap.size + 1 := by rw [hwb, Lib.bytesWorld_size]
  have hcb : Chg [] w wb := by rw [hwb]; exact bytes_chg w s
  have hwin := bytes_Win w s
  rw [← hwb] at hwin
  have hle : s.size ≤ cap := by rw [hcap]; exact grownCap_ge _ _ _ _
  have hbz1 : (convert 9 46 (.string s)).run Tryd.prog w = .ok (.slice (some ⟨w.heap.size, 0, none⟩) s.size cap) wb := by rw [hbz, ← hwb, ← hcap]
  clear hbz hwb hcap
  obtain ⟨M, hM⟩ : ∃ M, M = (Lib.bytesCells w 5 s).size := ⟨_, rfl⟩
  rw [← hM] at hwin
  clear hM
  have HNEW : Aside0 (Calls Tryd.prog 37 #[.iface 65 (.pointer (some ⟨wb.heap.size + 1, 0, none⟩))] ((wb.alloc (.cells #[] 3)).alloc (.cells #[.slice (some ⟨w.heap.size, 0, none⟩) s.size cap, .slice (some ⟨wb.heap.size, 0, none⟩) 0 0] 67)) fun e w2 => e = .returned (.pointer (some ⟨w.heap.size + 3, 0, none⟩)) ∧ Chg [] w w2 ∧ Sc w2 (w.heap.size + 3) (w.heap.size + 2) splitLines (.slice none 0 0) (.slice none 0 0) .nilIface 0 0 0 false ∧ Pc w2 (w.heap.size + 2) (.slice (some ⟨w.heap.size, 0, none⟩) s.size cap) ∧ Win w2 w.heap.size M 0 s) := ⟨by
    have hn := new_calls ((wb.alloc (.cells #[] 3)).alloc (.cells #[.slice (some ⟨w.heap.size, 0, none⟩) s.size cap, .slice (some ⟨wb.heap.size, 0, none⟩) 0 0] 67)) (wb.heap.size + 1)
    have hz : ((wb.alloc (.cells #[] 3)).alloc (.cells #[.slice (some ⟨w.heap.size, 0, none⟩) s.size cap, .slice (some ⟨wb.heap.size, 0, none⟩) 0 0] 67)).heap.size = w.heap.size + 3 := by rw [size_alloc, size_alloc, hzb]
    rw [hz] at hn
    have hcc : Chg [] w ((wb.alloc (.cells #[] 3)).alloc (.cells #[.slice (some ⟨w.heap.size, 0, none⟩) s.size cap, .slice (some ⟨wb.heap.size, 0, none⟩) 0 0] 67)) := (hcb.alloc _).alloc _
    have hp : ((wb.alloc (.cells #[] 3)).alloc (.cells #[.slice (some ⟨w.heap.size, 0, none⟩) s.size cap, .slice (some ⟨wb.heap.size, 0, none⟩) 0 0] 67)).heap[w.heap.size + 2]? = some (.cells #[.slice (some ⟨w.heap.size, 0, none⟩) s.size cap, .slice (some ⟨wb.heap.size, 0, none⟩) 0 0] 67 (0, 0)) := by
      have := heap_alloc_new (wb.alloc (.cells #[] 3)) (.cells #[.slice (some ⟨w.heap.size, 0, none⟩) s.size cap, .slice (some ⟨wb.heap.size, 0, none⟩) 0 0] 67)
      rw [size_alloc, show wb.heap.size + 1 = w.heap.size + 2 by omega] at this
      exact this
    refine hn.mono ?_
    rintro e w2 ⟨rfl, h1, h2⟩
    rw [show wb.heap.size + 1 = w.heap.size + 2 by omega] at h1
    exact ⟨rfl, hcc.trans h2, h1, ⟨_, _, (h2.block _ (by rw [hz]; omega) (by simp)).trans hp⟩, ((hwin.alloc _).alloc _).chg h2 (by simp)⟩⟩
  have HSP := Aside0.mk (split39 w hT)
  have HE := Aside0.mk hE
  have HLE := Aside0.mk hle
  have HTL := Aside0.mk (toks_length usual (s.size + 1) 0 s)
  obtain ⟨T, hT2⟩ : ∃ T, T = toks (call usual) (s.size + 1) 0 s := ⟨_, rfl⟩
  rw [← hT2] at HTL
  rw [← hT2]
  have HTT := Aside0.mk hT2
  clear hT hE hle hzb hcb hwin hT2
  go_enter Tryd.func29, Tryd.ntmps29
  go_wp2_with (first
    | (go_at_call 37; refine HNEW.out.mono ?_; rintro e w2 ⟨rfl, hc2, hs2, hp2, hw2⟩; have HC2 := Aside0.mk hc2; have HS2 := Aside0.mk hs2; have HP2 := Aside0.mk hp2; have HW2 := Aside0.mk hw2; clear hc2 hs2 hp2 hw2 HNEW)
    | (go_at_call 38; refine (split_calls HS2.out _ _ _).mono ?_; rintro e w3 ⟨rfl, hs3, hc3⟩; have HC3 := Aside0.mk hc3; have HS3 := Aside0.mk hs3; clear hs3 hc3))
  have HB3 : Aside0 (Below w.heap.size w w3) := ⟨((Chg.below (x := w) (HC2.out.toBelow (Nat.le_refl _) (by simp))).above HC3.out (fun i hi => .inr (by simp at hi; omega))).toBelow (Nat.le_refl _) (by simp)⟩
  have HP3 : Aside0 (PhS w3 (w.heap.size + 3) (w.heap.size + 2) (.func (.func 39) #[] #[]) (.slice none 0 0) (fun j => w.heap.size ≤ j ∧ (Value.slice none 0 0).ownBlock ≠ some j) ea 0 s) := ⟨.inl ⟨rfl, w.heap.size, M, cap, false, HS3.out, HP2.out.chg HC3.out (by simp), HLE.out, HW2.out.chg HC3.out (by simp), by omega, by omega, trivial, hs⟩⟩
  clear HC2 HS2 HP2 HW2 HC3 HS3 HLE
  go_loopw [9] (fun v9 wr => ∃ i k ph d tok, Aside0 (Below w.heap.size w wr) ∧ Aside0 (PhS wr (w.heap.size + 3) (w.heap.size + 2) (.func (.func 39) #[] #[]) tok (fun j => w.heap.size ≤ j ∧ v9.ownBlock ≠ some j) ea ph d) ∧ Aside0 (d.size < k) ∧ Aside0 (T.drop i = toks (call usual) k ph d) ∧ Aside0 (i ≤ T.length) ∧ Aside0 (ORow wr 9 v9 ((T.take i).map Value.string)) ∧ Aside0 (∀ b, v9.ownBlock = some b → w.heap.size ≤ b ∧ b ≠ w.heap.size + 3 ∧ b ≠ w.heap.size + 2)) (fun v9 _ => T.length - lenV v9)
  case atStart => exact ⟨0, s.size + 1, 0, s, _, HB3, HP3, ⟨Nat.lt_succ_self _⟩, ⟨HTT.out⟩, ⟨Nat.zero_le _⟩, ⟨ORow.nil _ _⟩, ⟨fun b hb => by cases hb⟩⟩
  case round =>
    clear HB3 HP3
    obtain ⟨i, k, ph, d, tok, HB, HP, HK, HD, HI, HR, HO⟩ := hrel
    obtain ⟨A3, c3, e3, _⟩ := HR.out.slice
    have hl3 : ((T.take i).map Value.string).length = i := by rw [List.length_map, List.length_take]; have := HI.out; omega
    rw [hl3] at e3
    subst e3
    have HL3 := Aside0.mk hl3
    clear hl3
    have hsc := scanner_calls w wr (w.heap.size + 3) (w.heap.size + 2) (fun j => w.heap.size ≤ j ∧ (Value.slice A3 i c3).ownBlock ≠ some j) (.func (.func 39) #[] #[]) tok ea (call usual) HSP.out HE.out ph d HB.out (by omega) (by omega) (by omega) (HP.out.imp (fun j _ h => ⟨h.1, .inl h⟩))
    obtain ⟨R, hR⟩ : ∃ R, R = run (call usual) ph d := ⟨_, rfl⟩
    have HRN : Aside0 (R.1 = none → R.2.1 = 2) := ⟨by rw [hR]; exact run_none _ ph d⟩
    have HR0 : Aside0 (R.2.1 ≠ 0) := ⟨by rw [hR]; exact run_ph _ ph d⟩
    have HRL : Aside0 (∀ t, R.1 = some t → R.2.2.size < d.size) := ⟨fun t ht => by rw [hR] at ht ⊢; exact run_less usual ph d t _ _ (by rw [← ht])⟩
    have HTD : Aside0 (T.drop i = nextToks (call usual) (k - 1) R) := ⟨by
      have h1 := HD.out
      have hk := HK.out
      obtain ⟨k, rfl⟩ : ∃ k', k = k' + 1 := ⟨k - 1, by omega⟩
      rw [h1, toks_succ, hR]
      rfl⟩
    rw [← hR] at hsc
    have HSC := Aside0.mk hsc
    clear hsc hR HP HD
    obtain ⟨r1, ph', d'⟩ := R
    have HKEEP : Aside0 (∀ w1, Bl w wr (w.heap.size + 3) (w.heap.size + 2) (fun j => w.heap.size ≤ j ∧ (Value.slice A3 i c3).ownBlock ≠ some j) w1 → ORow w1 9 (.slice A3 i c3) ((T.take i).map Value.string)) := ⟨fun w1 hb => by
      rcases HR.out.parts with ⟨e1, e2⟩ | ⟨g2, cp, cur, e1, q2, q3, q4, q5, q6⟩
      · rw [e1, e2]; exact ORow.nil _ _
      · rw [e1]
        have ho := HO.out g2 (by rw [e1]; rfl)
        exact ORow.of ((hb.frame g2 (Array.getElem?_eq_some_iff.1 q2).1 ho.2.1 ho.2.2 (fun h => h.2 (by rw [e1]; rfl))).trans q2) q3 q4 q5 q6⟩
    cases r1 with
    | none =>
      have HT2 : Aside0 (T.take i = T) := ⟨by
        have h1 : T.drop i = [] := HTD.out
        have h2 := List.take_append_drop i T
        rw [h1, List.append_nil] at h2
        exact h2⟩
      have HPH : Aside0 (ph' = 2) := ⟨HRN.out rfl⟩
      clear HTD HRN HR0 HRL
      go_wp2_with (first
        | (go_at_call 40; refine HSC.out.mono ?_; rintro e w4 ⟨rfl, hbl, tok', hph, htk⟩; have HBL := Aside0.mk hbl; have HPH4 := Aside0.mk hph; have HERR : Aside0 (Calls Tryd.prog 42 #[.pointer (some ⟨w.heap.size + 3, 0, none⟩)] w4 fun e W' => e = .returned .nilIface ∧ Chg [] w4 W') := ⟨by rcases HPH4.out with ⟨e, _⟩ | ⟨e, _⟩ | ⟨_, gb, st, en, emp, called, h1, _⟩; exact absurd (e.symm.trans HPH.out) (by decide); exact absurd (e.symm.trans HPH.out) (by decide); exact err_calls h1 (HE.out.below HBL.out.below)⟩; clear hbl hph htk HSC)
        | (go_at_call 42; refine HERR.out.mono ?_; rintro e w5 ⟨rfl, hc5⟩; have HC5 := Aside0.mk hc5; clear hc5 HERR))
      go_ret2
      refine ⟨.slice A3 i c3, rfl, ?_, ?_, fun b hb => (HO.out b hb).1⟩
      · have := (HKEEP.out w4 HBL.out).chg HC5.out (by simp)
        rw [HT2.out] at this
        exact this
      · exact (Chg.below (x := w) HBL.out.below).trans HC5.out
    | some t =>
      have HT1 : Aside0 (i < T.length ∧ T.take (i + 1) = T.take i ++ [t] ∧ T.drop (i + 1) = toks (call usual) (k - 1) ph' d') := ⟨by
        have h1 : T.drop i = t :: toks (call usual) (k - 1) ph' d' := HTD.out
        have h2 : T[i]? = some t := by
          have := List.getElem?_drop (xs := T) (i := i) (j := 0)
          rw [h1] at this
          simpa using this.symm
        have h3 : i < T.length := (List.getElem?_eq_some_iff.1 h2).1
        refine ⟨h3, by rw [List.take_add_one, h2]; rfl, ?_⟩
        have h4 : T.drop (i + 1) = (T.drop i).drop 1 := by rw [List.drop_drop]
        rw [h4, h1]
        rfl⟩
      have HLM := HTL
      clear HTD HRN
      go_wp2_with (first
        | (go_at_call 40; refine HSC.out.mono ?_; rintro e w4 ⟨rfl, hbl, tok', hph, htk⟩; have HBL := Aside0.mk hbl; have HPH4 := Aside0.mk hph; have HTX : Aside0 (Calls Tryd.prog 41 #[.pointer (some ⟨w.heap.size + 3, 0, none⟩)] w4 fun e W' => e = .returned (.string t) ∧ W' = w4) := ⟨by rcases HPH4.out with ⟨_, gt, M2, c, called, h1, _⟩ | ⟨_, gb, st, en, emp, called, h1, _⟩ | ⟨_, gb, st, en, emp, called, h1, _⟩ <;> exact text_calls h1 t (htk t rfl)⟩; have HR4 := Aside0.mk (HKEEP.out w4 hbl); clear hbl hph htk HSC HKEEP)
        | (go_at_call 41; refine HTX.out.mono ?_; rintro e w4 ⟨rfl, rfl⟩; clear HTX)
        | (at_builtin; refine wpList_append1 rfl _ _ 28 rfl 9 (.string ⟨#[]⟩) 16 Tryd.underlying28 infoStrZ rfl (.slice A3 i c3) ((T.take i).map Value.string) rfl (HR4.out.chg ((Chg.refl [] _).alloc _) (by simp)) _ (.string t) rfl (by simp) rfl (by rw [HL3.out]; have := HLM.out; have := HT1.out.1; omega) (by rw [HL3.out]; unfold maxLen; have := HLM.out; have := HT1.out.1; omega) ?_; intro v5 w5 hr5 hc5 ho5; have HR5 := Aside0.mk hr5; have HO5 := Aside0.mk ho5; have HC5 := Aside0.mk hc5; clear hr5 hc5 ho5))
      have HKQ : ∀ j, j < w4.heap.size → Okb w wr (fun j => w.heap.size ≤ j ∧ (Value.slice A3 i c3).ownBlock ≠ some j) j → (w.heap.size ≤ j ∧ (Value.slice A3 i c3).ownBlock ≠ some j) ∧ v5.ownBlock ≠ some j := fun j hj h => by
        have h1 : (Value.slice A3 i c3).ownBlock ≠ some j := by
          rcases h.2 with q | q
          · exact q.2
          · intro e
            have := (HR.out.block e).1
            omega
        refine ⟨⟨h.1, h1⟩, fun e => ?_⟩
        rcases HO5.out with q | q
        · exact h1 (by rw [← q]; exact e)
        · rw [e] at q
          have q2 : j = _ := (by injection q)
          rw [size_alloc] at q2
          omega
      have HGL : w.heap.size + 3 < w4.heap.size := by
        rcases HPH4.out with ⟨_, gt, M2, c, called, h1, _⟩ | ⟨_, gb, st, en, emp, called, h1, _⟩ | ⟨_, gb, st, en, emp, called, h1, _⟩ <;> exact h1.lt
      have HPN : PhS w5 (w.heap.size + 3) (w.heap.size + 2) (.func (.func 39) #[] #[]) tok' (fun j => w.heap.size ≤ j ∧ v5.ownBlock ≠ some j) ea ph' d' := by
        have h1 := (HPH4.out.imp (fun j hj h => HKQ j hj h)).chg0 ((Chg.refl [] w4).alloc (.cells #[.string t] 9))
        refine (h1.keep HC5.out ?_ ?_ ?_ HR0.out).imp (fun j _ h => ⟨h.1.1, h.2⟩)
        · intro m
          have := HO.out _ (by simpa using m)
          omega
        · intro m
          have := HO.out _ (by simpa using m)
          omega
        · intro j m h
          exact h.1.2 (by simpa using m)
      have HBN : Below w.heap.size w w5 := (((Chg.below (x := w) HBL.out.below).alloc _).above HC5.out (fun j m => .inr (HO.out _ (by simpa using m)).1)).toBelow (Nat.le_refl _) (by simp)
      have HON : ∀ b, v5.ownBlock = some b → w.heap.size ≤ b ∧ b ≠ w.heap.size + 3 ∧ b ≠ w.heap.size + 2 := fun b hb => by
        rcases HO5.out with q | q
        · exact HO.out b (by rw [← q]; exact hb)
        · rw [hb] at q
          have q2 : b = _ := (by injection q)
          rw [size_alloc] at q2
          omega
      refine ⟨⟨i + 1, k - 1, ph', d', tok', ⟨HBN⟩, ⟨HPN⟩, ⟨by have h1 : d'.size < d.size := HRL.out t rfl; have := HK.out; omega⟩, ⟨HT1.out.2.2⟩, ⟨HT1.out.1⟩, ⟨by rw [HT1.out.2.1, List.map_append]; exact HR5.out⟩, ⟨HON⟩⟩, ?_⟩
      obtain ⟨A5, c5, e5, _⟩ := HR5.out.slice
      have hl5 : ((T.take i).map Value.string ++ [Value.string t]).length = i + 1 := by rw [List.length_append, HL3.out]; rfl
      rw [hl5] at e5
      rw [e5]
      have := HT1.out.1
      simp only [lenV]
      omega
end Go.Proofs.YtpjnebmcbeblkaaDoor.Sn
namespace Go.Proofs.YtpjnebmcbeblkaaDoor.Sn
open Go.RowKit Go.Lib Go.Proofs.YtpjnebmcbeblkaaDoorW.PrintWords Go.Proofs.YtpjnebmcbeblkaaDoor.Gn Go.Proofs.YtpjnebmcbeblkaaDoor.X
theorem usual_idle (p q : Value) (w : World) :
    CallsD Tryd.prog 28 #[p, q] .returning w fun e u' w' => e = .returned (.tuple #[]) ∧ u' = .returning ∧ w' = w := by
  refine callsD_of_wpS Tryd.func28 rfl fun c₀ cs hu => ?_
  apply wpS_seq
  apply wpS_region
  simp [wpOpsS, go_sem, recoverD, hu, Tryd.ntmps28, Exit.thenS]
  refine wpS_cond (t := false) (by simp [Act.eval, Array.replicate]) ?_
  simp only [Bool.false_eq_true, if_false]
  refine wpS_of_wp (wp_skip ?_)
  cases c₀
  simp_all [bodyPostS, results, Tryd.results28]
theorem given_idle (p q : Value) (w : World) :
    CallsD Tryd.prog 30 #[p, q] .returning w fun e u' w' => e = .returned (.tuple #[]) ∧ u' = .returning ∧ w' = w := by
  refine callsD_of_wpS Tryd.func30 rfl fun c₀ cs hu => ?_
  apply wpS_seq
  apply wpS_region
  simp [wpOpsS, go_sem, recoverD, hu, Tryd.ntmps30, Exit.thenS]
  refine wpS_cond (t := false) (by simp [Act.eval, Array.replicate]) ?_
  simp only [Bool.false_eq_true, if_false]
  refine wpS_of_wp (wp_skip ?_)
  cases c₀
  simp_all [bodyPostS, results, Tryd.results30]
def SsPost (T : List ByteArray) (w : World) (e : Ending) (W : World) : Prop := ∃ v, e = .returned (.tuple #[v, .bool true]) ∧ ORow W 9 v (T.map Value.string) ∧ Chg [] w W ∧ ∀ g, v.ownBlock = some g → w.heap.size ≤ g
set_option maxHeartbeats 2000000 in
set_option maxRecDepth 100000 in
theorem sentencesUsual_calls (w : World) (s : ByteArray) (ea : Addr) (hs : s.size ≤ 1000) (hT : Tabs w) (hE : Eof w ea) :
    Calls Tryd.prog 14 #[.string s] w (SsPost (toks (call usual) (s.size + 1) 0 s) w) := by
  have hmf : ∀ (fn : Fn) (first cap : Array Value) (w : World), (Instr.makeFunc fn first cap).run Tryd.prog w = .ok (.func fn first cap) w := fun _ _ _ _ => rfl
  have hc0 : Chg [] w ((w.alloc (.cells #[.slice none 0 0] 28)).alloc (.cells #[.bool false] 4)) := ((Chg.refl [] w).alloc _).alloc _
  have hz0 : ((w.alloc (.cells #[.slice none 0 0] 28)).alloc (.cells #[.bool false] 4)).heap.size = w.heap.size + 2 := by rw [size_alloc, size_alloc]
  have v1 : Var ((w.alloc (.cells #[.slice none 0 0] 28)).alloc (.cells #[.bool false] 4)) w.heap.size 28 (.slice none 0 0) := by
    have h : Var (w.alloc (.cells #[.slice none 0 0] 28)) w.heap.size 28 (.slice none 0 0) := heap_alloc_new _ _
    exact h.alloc _
  have v2 : Var ((w.alloc (.cells #[.slice none 0 0] 28)).alloc (.cells #[.bool false] 4)) (w.heap.size + 1) 4 (.bool false) := by
    have := heap_alloc_new (w.alloc (.cells #[.slice none 0 0] 28)) (.cells #[.bool false] 4)
    rw [size_alloc] at this
    exact this
  have hb := hc0.toBelow (Nat.le_refl _) (by simp)
  have hz := zzUsual_calls _ s ea hs (hT.below hb) (hE.below hb)
  obtain ⟨T, hT2⟩ : ∃ T, T = toks (call usual) (s.size + 1) 0 s := ⟨_, rfl⟩
  rw [← hT2] at hz
  rw [← hT2]
  have HZ := Aside0.mk hz
  have HC0 := Aside0.mk hc0
  have HZ0 := Aside0.mk hz0
  have V1 := Aside0.mk v1
  have V2 := Aside0.mk v2
  have hneq := nilNeq
  clear hT hE hb hz hc0 hz0 v1 v2 hT2
  go_enter_defers Tryd.func14, Tryd.ntmps14
  go_wp2_with fail
  generalize (w.alloc (.cells #[.slice none 0 0] 28)).alloc (.cells #[.bool false] 4) = w0 at *
  refine HZ.out.mono ?_
  rintro e w2 ⟨v, rfl, hr, hc2, ho⟩
  obtain ⟨A4, c4, e4, _⟩ := hr.slice
  obtain ⟨n4, HN4⟩ : ∃ n4, n4 = (T.map Value.string).length := ⟨_, rfl⟩
  rw [← HN4] at e4
  subst e4
  have V1x := Aside0.mk (V1.out.chg hc2 (by simp))
  have V2x := Aside0.mk (V2.out.chg hc2 (by simp))
  have HR := Aside0.mk hr
  have HO := Aside0.mk ho
  have HC2 := Aside0.mk hc2
  clear hr ho hc2 HZ V1 V2 HN4
  have d1 := V1x.out.cell
  have d2 := V2x.out.cell
  have f1 := V1x.out.frozen 0 none
  have f2 := V2x.out.frozen 0 none
  have hn : w.heap.size ≠ w.heap.size + 1 := by omega
  have hn' : w.heap.size + 1 ≠ w.heap.size := by omega
  go_wp2_with fail
  refine leaves_cons (f := 28) (args := #[.pointer (some ⟨w.heap.size, 0, none⟩), .pointer (some ⟨w.heap.size + 1, 0, none⟩)]) (by simp) (by simp [go_sem]) ?_
  refine (usual_idle _ _ _).mono ?_
  rintro e u' w5 ⟨rfl, rfl, rfl⟩
  have hv1 := (((V1x.out.set (.slice A4 n4 c4)).set (.slice A4 n4 c4)).setOther (a := ⟨w.heap.size + 1, 0, none⟩) hn (.bool true)).cell
  have hv2 := (((V2x.out.setOther (a := ⟨w.heap.size, 0, none⟩) hn' (.slice A4 n4 c4)).setOther (a := ⟨w.heap.size, 0, none⟩) hn' (.slice A4 n4 c4)).set (.bool true)).cell
  have hcc : Chg [w.heap.size, w.heap.size + 1] w2 (((w2.setCell ⟨w.heap.size, 0, none⟩ (.slice A4 n4 c4)).setCell ⟨w.heap.size, 0, none⟩ (.slice A4 n4 c4)).setCell ⟨w.heap.size + 1, 0, none⟩ (.bool true)) := (((Chg.refl _ w2).setCell (.inl (by simp)) _).setCell (.inl (by simp)) _).setCell (.inl (by simp)) _
  have hcw : Chg [] w (((w2.setCell ⟨w.heap.size, 0, none⟩ (.slice A4 n4 c4)).setCell ⟨w.heap.size, 0, none⟩ (.slice A4 n4 c4)).setCell ⟨w.heap.size + 1, 0, none⟩ (.bool true)) := (HC0.out.trans HC2.out).above hcc (fun i hi => .inr (by simp at hi; omega))
  have hz0 := HZ0.out
  have hrr := HR.out.chg hcc (fun g hg hm => by have := HO.out g hg; simp at hm; omega)
  generalize ((w2.setCell ⟨w.heap.size, 0, none⟩ (.slice A4 n4 c4)).setCell ⟨w.heap.size, 0, none⟩ (.slice A4 n4 c4)).setCell ⟨w.heap.size + 1, 0, none⟩ (.bool true) = w6 at *
  exact ⟨.tuple #[.slice A4 n4 c4, .bool true], by simp [results, Tryd.results14, go_sem, hv1, hv2], _, rfl, hrr, hcw, fun g hg => by have := HO.out g hg; omega⟩
set_option maxHeartbeats 2000000 in
set_option maxRecDepth 100000 in
theorem sentencesGiven_calls (w : World) (s a f : ByteArray) (sk ln : Bool) (mx : Int) (ea : Addr) (hs : s.size ≤ 1000) (ha : a.size ≤ 1000) (hf : f.size ≤ 1000) (hT : Tabs w) (hE : Eof w ea) :
    Calls Tryd.prog 20 #[.string s, .agg #[.string a, .string f, .bool sk, .bool ln, .int .i64 mx], .slice none 0 0] w (SsPost (toks (call (spOf a f sk ln mx)) (s.size + 1) 0 s) w) := by
  have hmf : ∀ (fn : Fn) (first cap : Array Value) (w : World), (Instr.makeFunc fn first cap).run Tryd.prog w = .ok (.func fn first cap) w := fun _ _ _ _ => rfl
  obtain ⟨wa, hwa⟩ : ∃ wa, wa = w.alloc (.cells #[.string a, .string f, .bool sk, .bool ln, .int .i64 mx] 23 (0, 0)) := ⟨_, rfl⟩
  have hza : wa.heap.size = w.heap.size + 1 := by rw [hwa]; exact size_alloc _ _
  have hca : Chg [] w wa := by rw [hwa]; exact (Chg.refl [] w).alloc _
  have hba : wa.heap[w.heap.size]? = some (.cells #[.string a, .string f, .bool sk, .bool ln, .int .i64 mx] 23 (0, 0)) := by rw [hwa]; exact heap_alloc_new _ _
  obtain ⟨w0, hw0⟩ : ∃ w0, w0 = (wa.alloc (.cells #[.slice none 0 0] 28)).alloc (.cells #[.bool false] 4) := ⟨_, rfl⟩
  have hz0 : w0.heap.size = w.heap.size + 3 := by rw [hw0, size_alloc, size_alloc, hza]
  have hc0 : Chg [] w w0 := by rw [hw0]; exact (hca.alloc _).alloc _
  have v1 : Var w0 (w.heap.size + 1) 28 (.slice none 0 0) := by
    rw [hw0, ← hza]
    have h : Var (wa.alloc (.cells #[.slice none 0 0] 28)) wa.heap.size 28 (.slice none 0 0) := heap_alloc_new _ _
    exact h.alloc _
  have v2 : Var w0 (w.heap.size + 1 + 1) 4 (.bool false) := by
    rw [hw0]
    have := heap_alloc_new (wa.alloc (.cells #[.slice none 0 0] 28)) (.cells #[.bool false] 4)
    rw [size_alloc, hza] at this
    exact this
  have hb0 : w0.heap[w.heap.size]? = some (.cells #[.string a, .string f, .bool sk, .bool ln, .int .i64 mx] 23 (0, 0)) := by
    rw [hw0, Below.heap_alloc _ _ _ (by rw [size_alloc]; omega), Below.heap_alloc _ _ _ (by omega)]
    exact hba
  have x0 := cell_of (i := 0) hb0 rfl
  have x1 := cell_of (i := 1) hb0 rfl
  have x2 := cell_of (i := 2) hb0 rfl
  have x3 := cell_of (i := 3) hb0 rfl
  have x4 := cell_of (i := 4) hb0 rfl
  have HSP := Aside0.mk (splitter_calls w0 a f sk ln mx (by omega) (by omega))
  have HT := Aside0.mk hT
  have HE := Aside0.mk hE
  have HC0 := Aside0.mk hc0
  have HZ0 := Aside0.mk hz0
  have V1 := Aside0.mk v1
  have V2 := Aside0.mk v2
  have HW0 : Aside0 (w0 = ((w.alloc (.cells #[.string a, .string f, .bool sk, .bool ln, .int .i64 mx] 23 (0, 0))).alloc (.cells #[.slice none 0 0] 28)).alloc (.cells #[.bool false] 4)) := ⟨by rw [hw0, hwa]⟩
  have hneq := nilNeq
  clear hT hE hza hca hba hc0 hz0 v1 v2 hb0 hw0 hwa
  go_enter_defers Tryd.func20, Tryd.ntmps20
  go_upto_region 2 with fail
  rw [← HW0.out]
  go_wp2_with (go_at_call 25; refine HSP.out.mono ?_; rintro e w1 ⟨g0, g1, c0, c1, rfl, hc1, h0, h1, hrd⟩; have HC1 := Aside0.mk hc1; have HGG := Aside0.mk (And.intro h0 h1); have HRD := Aside0.mk hrd; clear hc1 h0 h1 hrd HSP)
  have hgg := HGG.out
  have hz0 := HZ0.out
  have hca : Chg [] w w1 := HC0.out.trans HC1.out
  have hcb : Chg [] w (w1.alloc (.cells (spA (spOf a f sk ln mx) g0 g1 c0 c1) 52)) := hca.alloc _
  have hbb := hcb.toBelow (Nat.le_refl _) (by simp)
  have HZ := Aside0.mk (zzGiven_calls (w1.alloc (.cells (spA (spOf a f sk ln mx) g0 g1 c0 c1) 52)) s w1.heap.size (spOf a f sk ln mx) g0 g1 c0 c1 ea hs (heap_alloc_new _ _) (HRD.out.chg ((Chg.refl [] w1).alloc _) (by simp) (by simp)) (HT.out.below hbb) (HE.out.below hbb))
  have V1y := Aside0.mk ((V1.out.chg HC1.out (by simp)).alloc (.cells (spA (spOf a f sk ln mx) g0 g1 c0 c1) 52))
  have V2y := Aside0.mk ((V2.out.chg HC1.out (by simp)).alloc (.cells (spA (spOf a f sk ln mx) g0 g1 c0 c1) 52))
  have HCB := Aside0.mk hcb
  have HZB : Aside0 (w.heap.size + 3 ≤ (w1.alloc (.cells (spA (spOf a f sk ln mx) g0 g1 c0 c1) 52)).heap.size) := ⟨by rw [size_alloc]; have := HC1.out.size; omega⟩
  obtain ⟨T, hT2⟩ : ∃ T, T = toks (call (spOf a f sk ln mx)) (s.size + 1) 0 s := ⟨_, rfl⟩
  rw [← hT2] at HZ
  have HTT := Aside0.mk hT2
  clear hT2 hgg hz0 hca hcb hbb V1 V2 HC0 HC1 HGG HRD HT HE x0 x1 x2 x3 x4 HW0
  refine HZ.out.mono ?_
  rintro e w2 ⟨v, rfl, hr, hc2, ho⟩
  obtain ⟨A4, c4, e4, _⟩ := hr.slice
  obtain ⟨n4, HN4⟩ : ∃ n4, n4 = (T.map Value.string).length := ⟨_, rfl⟩
  rw [← HN4] at e4
  subst e4
  have V1x := Aside0.mk (V1y.out.chg hc2 (by simp))
  have V2x := Aside0.mk (V2y.out.chg hc2 (by simp))
  have HR := Aside0.mk hr
  have HO : Aside0 (∀ g, (Value.slice A4 n4 c4).ownBlock = some g → w.heap.size + 3 ≤ g) := ⟨fun g hg => Nat.le_trans HZB.out (ho g hg)⟩
  have HC2 : Aside0 (Chg [] w w2) := ⟨HCB.out.trans hc2⟩
  clear hr ho hc2 HZ V1y V2y HN4 HCB HZB
  have d1 := V1x.out.cell
  have d2 := V2x.out.cell
  have f1 := V1x.out.frozen 0 none
  have f2 := V2x.out.frozen 0 none
  have hn : w.heap.size + 1 ≠ w.heap.size + 1 + 1 := by omega
  have hn' : w.heap.size + 1 + 1 ≠ w.heap.size + 1 := by omega
  go_wp2_with fail
  refine leaves_cons (f := 30) (args := #[.pointer (some ⟨w.heap.size + 1, 0, none⟩), .pointer (some ⟨w.heap.size + 1 + 1, 0, none⟩)]) (by simp) (by simp [go_sem]) ?_
  refine (given_idle _ _ _).mono ?_
  rintro e u' w5 ⟨rfl, rfl, rfl⟩
  have hv1 := (((V1x.out.set (.slice A4 n4 c4)).set (.slice A4 n4 c4)).setOther (a := ⟨w.heap.size + 1 + 1, 0, none⟩) hn (.bool true)).cell
  have hv2 := (((V2x.out.setOther (a := ⟨w.heap.size + 1, 0, none⟩) hn' (.slice A4 n4 c4)).setOther (a := ⟨w.heap.size + 1, 0, none⟩) hn' (.slice A4 n4 c4)).set (.bool true)).cell
  have hcc : Chg [w.heap.size + 1, w.heap.size + 1 + 1] w2 (((w2.setCell ⟨w.heap.size + 1, 0, none⟩ (.slice A4 n4 c4)).setCell ⟨w.heap.size + 1, 0, none⟩ (.slice A4 n4 c4)).setCell ⟨w.heap.size + 1 + 1, 0, none⟩ (.bool true)) := (((Chg.refl _ w2).setCell (.inl (by simp)) _).setCell (.inl (by simp)) _).setCell (.inl (by simp)) _
  have hcw : Chg [] w (((w2.setCell ⟨w.heap.size + 1, 0, none⟩ (.slice A4 n4 c4)).setCell ⟨w.heap.size + 1, 0, none⟩ (.slice A4 n4 c4)).setCell ⟨w.heap.size + 1 + 1, 0, none⟩ (.bool true)) := HC2.out.above hcc (fun i hi => .inr (by simp at hi; omega))
  have hrr := HR.out.chg hcc (fun g hg hm => by have := HO.out g hg; simp at hm; omega)
  generalize ((w2.setCell ⟨w.heap.size + 1, 0, none⟩ (.slice A4 n4 c4)).setCell ⟨w.heap.size + 1, 0, none⟩ (.slice A4 n4 c4)).setCell ⟨w.heap.size + 1 + 1, 0, none⟩ (.bool true) = w6 at *
  exact ⟨.tuple #[.slice A4 n4 c4, .bool true], by simp [results, Tryd.results20, go_sem, hv1, hv2], _, rfl, by rw [HTT.out] at hrr; exact hrr, hcw, fun g hg => by have := HO.out g hg; omega⟩
end Go.Proofs.YtpjnebmcbeblkaaDoor.Sn
namespace Go.Proofs.YtpjnebmcbeblkaaDoor.Sn
open Go.RowKit Go.Proofs.YtpjnebmcbeblkaaDoorW.PrintWords Go.Proofs.YtpjnebmcbeblkaaDoor.Gn Go.Proofs.YtpjnebmcbeblkaaDoor.X
theorem R_of_row {α : Type} {enc : α → Value} {h1 : ∀ x, (enc x).oneCell' = true} {w : World} {e base : Nat} {ok : Nat → Prop} {v : Value} {xs : List α} (h : ORow w e v (xs.map enc)) (hb : ∀ g, v.ownBlock = some g → base ≤ g ∧ ok g) : (Kd.scalar enc h1).R e w base ok v xs := by
  refine ⟨fun k hk => (hb k hk).2, xs.map enc, ?_, ?_⟩
  · rcases h.parts with ⟨h2, h3⟩ | ⟨g, cap, cur, h2, h3, h4, h5, h6, h7⟩
    · have : xs = [] := by simpa using h3
      subst this
      exact ⟨rfl, .inl ⟨h2, rfl⟩⟩
    · refine ⟨(show (xs.map enc).length = xs.length * 1 by simp), .inr ⟨g, cap, cur, by simpa using h2, (hb g (by rw [h2]; rfl)).1, h3, by simpa using h4, h5, ?_, ?_⟩⟩
      · show cur.size = cap * 1
        omega
      · show cur.toList.take (xs.length * 1) = _
        simpa using h7
  · refine ⟨(show (xs.map enc).length = xs.length * 1 by simp), fun j p hj => ?_⟩
    show ((xs.map enc).drop (j * 1)).take 1 = [enc p]
    obtain ⟨hj1, hj2⟩ := List.getElem?_eq_some_iff.1 hj
    rw [Nat.mul_one, List.drop_eq_getElem_cons (by simpa using hj1)]
    simp [hj2]
end Go.Proofs.YtpjnebmcbeblkaaDoor.Sn
namespace Go.Proofs.YtpjnebmcbeblkaaDoor.P
open Go.RowKit Go.Proofs.YtpjnebmcbeblkaaDoorW.PrintWords Go.Proofs.YtpjnebmcbeblkaaDoor.Gn Go.Proofs.YtpjnebmcbeblkaaDoor.Sn
def impl_SentencesUsual.f (a0 : ByteArray) : Option (List ByteArray × Bool) := if a0.size ≤ 1000 then some (toks (call usual) (a0.size + 1) 0 a0, true) else none
theorem impl_SentencesUsual.calls (a0 : ByteArray) (r1 : List ByteArray) (r2 : Bool) (w : World) (ht : Go.Proofs.YtpjnebmcbeblkaaDoor.X2.Tabs w) (h : impl_SentencesUsual.f a0 = some (r1, r2)) :
    Calls Tryd.prog 14 #[.string a0] w fun e w' => ∃ v0_ : Value, e = .returned (.tuple #[v0_, .bool r2]) ∧ Kd.R Kd.string 9 w' w.heap.size (fun _ => True) v0_ r1 ∧ Below w.heap.size w w' := by
  unfold impl_SentencesUsual.f at h
  split at h
  · rename_i hb
    injection h with h
    simp only [Prod.mk.injEq] at h
    obtain ⟨rfl, rfl⟩ := h
    obtain ⟨ea, he⟩ := ht.eof
    refine (sentencesUsual_calls w a0 ea hb ht.tabs he).mono ?_
    rintro e w' ⟨v, rfl, h1, h2, h3⟩
    exact ⟨v, rfl, R_of_row (enc := Value.string) h1 (fun g hg => ⟨h3 g hg, trivial⟩), h2.toBelow (Nat.le_refl _) (by simp)⟩
  · cases h
def impl_Sentences.f (a0 f0 f1 : ByteArray) (f2 f3 : Bool) (f4 : Int) (x2 : List Int) : Option (List ByteArray × Bool) := if x2 = [] ∧ a0.size ≤ 1000 ∧ f0.size ≤ 1000 ∧ f1.size ≤ 1000 then some (toks (call (spOf f0 f1 f2 f3 f4)) (a0.size + 1) 0 a0, true) else none
theorem impl_Sentences.calls (a0 f0 f1 : ByteArray) (f2 f3 : Bool) (f4 : Int) (A : Option Addr) (c : Nat) (x2 : List Int) (r1 : List ByteArray) (r2 : Bool) (w : World) (hC : Kd.C (Kd.int .i64) w A c x2) (hle : x2.length ≤ c) (ht : Go.Proofs.YtpjnebmcbeblkaaDoor.X2.Tabs w) (h : impl_Sentences.f a0 f0 f1 f2 f3 f4 x2 = some (r1, r2)) :
    Calls Tryd.prog 20 #[.string a0, .agg #[.string f0, .string f1, .bool f2, .bool f3, .int .i64 f4], .slice none 0 0] w fun e w' => ∃ v0_ : Value, e = .returned (.tuple #[v0_, .bool r2]) ∧ Kd.R Kd.string 9 w' w.heap.size (fun _ => True) v0_ r1 ∧ Below w.heap.size w w' := by
  unfold impl_Sentences.f at h
  split at h
  · rename_i hb
    injection h with h
    simp only [Prod.mk.injEq] at h
    obtain ⟨rfl, rfl⟩ := h
    obtain ⟨ea, he⟩ := ht.eof
    refine (sentencesGiven_calls w a0 f0 f1 f2 f3 f4 ea hb.2.1 hb.2.2.1 hb.2.2.2 ht.tabs he).mono ?_
    rintro e w' ⟨v, rfl, h1, h2, h3⟩
    exact ⟨v, rfl, R_of_row (enc := Value.string) h1 (fun g hg => ⟨h3 g hg, trivial⟩), h2.toBelow (Nat.le_refl _) (by simp)⟩
  · cases h
end Go.Proofs.YtpjnebmcbeblkaaDoor.P
