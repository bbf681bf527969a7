/- One call of Scan over a short text: the walk. -/
import Derived.Test.YtpjnebmcbeblkaaDoorQSc
import Derived.Deep.DeepCutAuto
import Derived.Deep.RegionHeld3
import Derived.Laws.Cover3
set_option linter.unusedVariables false
namespace Go.Proofs.YtpjnebmcbeblkaaDoor.Sn
open Go.RowKit Go.Lib Go.Proofs.YtpjnebmcbeblkaaDoorW.PrintWords Go.Proofs.YtpjnebmcbeblkaaDoor.Gn Go.Proofs.YtpjnebmcbeblkaaDoor.X
def Eo (ea : Addr) : Value := .iface 106 (.pointer (some ea))
/-- A call of the split function F. -/
def CallsF (F : Value) (x : Value) (eof : Bool) (W : World) (Q : Ending → World → Prop) : Prop :=
  (∃ sv, F = .func (.func 26) #[.agg sv] #[] ∧ Calls Tryd.prog 26 #[.agg sv, x, .bool eof] W Q) ∨ (F = .func (.func 39) #[] #[] ∧ Calls Tryd.prog 39 #[x, .bool eof] W Q)
/-- What the split function does. -/
structure Split (w0 : World) (F : Value) (sp : ByteArray → Bool → Out) : Prop where
  call : ∀ W, Below w0.heap.size w0 W → ∀ (b M off cap : Nat) (d : ByteArray) (eof : Bool), Win W b M off d → w0.heap.size ≤ b → d.size ≤ cap → d.size ≤ 1000 → CallsF F (.slice (some ⟨b, off, none⟩) d.size cap) eof W (Told W b M off cap d.size (sp d eof))
  adv : ∀ d eof, (sp d eof).adv ≤ d.size
  pos : ∀ d, (sp d true).tok.isSome = true → 0 < (sp d true).adv
/-- Blocks that may be turned: those of Q, and new ones. -/
def Okb (w0 Wi : World) (Q : Nat → Prop) (i : Nat) : Prop := w0.heap.size ≤ i ∧ (Q i ∨ Wi.heap.size ≤ i)
/-- What has turned since Wi: the scanner, the reader, blocks of Q, new ones. -/
structure Bl (w0 Wi : World) (g gp : Nat) (Q : Nat → Prop) (W : World) : Prop where
  below : Below w0.heap.size w0 W
  size : Wi.heap.size ≤ W.heap.size
  frame : ∀ i, i < Wi.heap.size → i ≠ g → i ≠ gp → ¬ Q i → W.heap[i]? = Wi.heap[i]?
  hg : w0.heap.size ≤ g
  hgp : w0.heap.size ≤ gp
theorem Bl.step {w0 Wi : World} {g gp : Nat} {Q : Nat → Prop} {W W' : World} {S : List Nat} (h : Bl w0 Wi g gp Q W) (hc : Chg S W W') (hs : ∀ i ∈ S, i = g ∨ i = gp ∨ Okb w0 Wi Q i) : Bl w0 Wi g gp Q W' where
  below := ((Chg.below (x := w0) h.below).above hc (fun i hi => .inr (by
    have h1 := h.hg
    have h2 := h.hgp
    rcases hs i hi with e | e | e
    · omega
    · omega
    · exact e.1))).toBelow (Nat.le_refl _) (by simp)
  size := Nat.le_trans h.size hc.size
  frame i hi a b c := (hc.block i (Nat.lt_of_lt_of_le hi h.size) (fun m => by
    rcases hs i m with e | e | e
    · exact a e
    · exact b e
    · rcases e.2 with e | e
      · exact c e
      · omega)).trans (h.frame i hi a b c)
  hg := h.hg
  hgp := h.hgp
theorem Bl.drewN {w0 Wi : World} {g gp : Nat} {Q : Nat → Prop} {W : World} (h : Bl w0 Wi g gp Q W) (n : Nat) : Bl w0 Wi g gp Q (W.drewN n) := h.step (S := []) ((Chg.refl [] W).drewN n) (by simp)
/-- Nothing is read. -/
def Ph0 (W : World) (g gp : Nat) (F tok : Value) (d : ByteArray) : Prop :=
  ∃ gt M c called, Sc W g gp F tok (.slice none 0 0) .nilIface 0 0 0 called ∧ Pc W gp (.slice (some ⟨gt, 0, none⟩) d.size c) ∧ d.size ≤ c ∧ Win W gt M 0 d ∧ gt ≠ gp ∧ gt ≠ g ∧ True ∧ d.size ≤ 1000
/-- The text is read; er: the end is. -/
def Ph1 (W : World) (g gp : Nat) (F tok : Value) (K : Nat → Prop) (er : Value) (d : ByteArray) : Prop :=
  ∃ gb st en emp called, Sc W g gp F tok (.slice (some ⟨gb, 0, none⟩) 4096 4096) er st en emp called ∧ Win W gb 4096 st d ∧ (∃ T c, Pc W gp (.slice T 0 c)) ∧ gb ≠ gp ∧ gb ≠ g ∧ K gb ∧ en = st + d.size ∧ en ≤ 1000
/-- The state by the phase. -/
def PhS (W : World) (g gp : Nat) (F tok : Value) (K : Nat → Prop) (ea : Addr) (ph : Nat) (d : ByteArray) : Prop :=
  (ph = 0 ∧ Ph0 W g gp F tok d) ∨ (ph = 1 ∧ Ph1 W g gp F tok K .nilIface d) ∨ (ph = 2 ∧ Ph1 W g gp F tok K (Eo ea) d)
def phM (W : World) (g : Nat) : Nat := match W.cell? ⟨g, 4, none⟩ with
  | some (.slice none _ _) => 2
  | _ => match W.cell? ⟨g, 7, none⟩ with
    | some .nilIface => 1
    | _ => 0
theorem invRead (x : Value) (W : World) : (method 225 65 x "Read").run Tryd.prog W = .ok (70, x) W := by kernel_rfl
theorem nilNeq (W : World) : (binOp .neq 48 .nilIface .nilIface).run Tryd.prog W = .ok (.bool false) W := run_neq_nil_nil _ 48 (by kernel_rfl)
theorem nilEql (W : World) : (binOp .eql 48 .nilIface .nilIface).run Tryd.prog W = .ok (.bool true) W := run_eql_nil_nil _ 48 (by kernel_rfl)
theorem eofNeq (W : World) (ea : Addr) : (binOp .neq 48 (.iface 106 (.pointer (some ea))) .nilIface).run Tryd.prog W = .ok (.bool true) W := run_neq_held_nil _ 48 _ _ (by kernel_rfl)
theorem eofEql (W : World) (ea : Addr) : (binOp .eql 48 (.iface 106 (.pointer (some ea))) .nilIface).run Tryd.prog W = .ok (.bool false) W := run_eql_held_nil _ 48 _ _ (by kernel_rfl)
theorem rowNeq (W : World) (A : Option Addr) (l c : Nat) : (binOp .neq 46 (.slice A l c) (.slice none 0 0)).run Tryd.prog W = .ok (.bool (!A.isNone)) W := run_neq_slice_nil _ 46 5 A l c Tryd.underlying46
theorem PhS.chg0 {W W' : World} {g gp : Nat} {F tok : Value} {K : Nat → Prop} {ea : Addr} {ph : Nat} {d : ByteArray} (h : PhS W g gp F tok K ea ph d) (hc : Chg [] W W') : PhS W' g gp F tok K ea ph d := by
  rcases h with ⟨e, gt, M, c, called, h1, h2, h3, h4, h5⟩ | ⟨e, gb, st, en, emp, called, h1, h2, ⟨T, c, h3⟩, h4⟩ | ⟨e, gb, st, en, emp, called, h1, h2, ⟨T, c, h3⟩, h4⟩
  · exact .inl ⟨e, gt, M, c, called, h1.chg hc (by simp), h2.chg hc (by simp), h3, h4.chg hc (by simp), h5⟩
  · exact .inr (.inl ⟨e, gb, st, en, emp, called, h1.chg hc (by simp), h2.chg hc (by simp), ⟨T, c, h3.chg hc (by simp)⟩, h4⟩)
  · exact .inr (.inr ⟨e, gb, st, en, emp, called, h1.chg hc (by simp), h2.chg hc (by simp), ⟨T, c, h3.chg hc (by simp)⟩, h4⟩)
theorem PhS.m {W : World} {g gp : Nat} {F tok : Value} {K : Nat → Prop} {ea : Addr} {ph : Nat} {d : ByteArray} (h : PhS W g gp F tok K ea ph d) : phM W g = 2 - ph := by
  rcases h with ⟨e, gt, M, c, called, h1, _⟩ | ⟨e, gb, st, en, emp, called, h1, _⟩ | ⟨e, gb, st, en, emp, called, h1, _⟩
  · obtain ⟨⟨-, -, -, -, c4, -⟩, -⟩ := h1.cells
    subst e; unfold phM; rw [c4]
  · obtain ⟨⟨-, -, -, -, c4, -, -, c7, -⟩, -⟩ := h1.cells
    subst e; unfold phM; rw [c4]; simp only; rw [c7]
  · obtain ⟨⟨-, -, -, -, c4, -, -, c7, -⟩, -⟩ := h1.cells
    subst e; unfold phM; rw [c4]; simp only; rw [c7]; rfl
theorem Win.suf {W : World} {b M off : Nat} {s : ByteArray} (h : Win W b M off s) (k : Nat) (hk : k ≤ s.size) : Win W b M (off + k) (cut s k s.size) := by
  obtain ⟨cs, fz, h1, h2, h3, h4, h5⟩ := h
  refine ⟨cs, fz, h1, h2, by rw [cut_size _ _ _ (Nat.le_refl _)]; omega, h4, fun j hj => ?_⟩
  rw [cut_size _ _ _ (Nat.le_refl _)] at hj
  rw [byt_cut s k s.size j (Nat.le_refl _) hj, Nat.add_assoc]
  exact h5 (k + j) (by omega)
theorem Win.nul {W : World} {b M off : Nat} {s : ByteArray} (h : Win W b M off s) : Win W b M 0 ByteArray.empty := by
  obtain ⟨cs, fz, h1, h2, h3, h4, h5⟩ := h
  exact ⟨cs, fz, h1, h2, Nat.zero_le _, h4, fun j hj => absurd hj (Nat.not_lt_zero _)⟩
theorem below_drewN {B : Nat} {w W : World} (h : Below B w W) (n : Nat) : Below B w (W.drewN n) := ⟨h.os, h.tape, h.output, h.size, h.block⟩
/-- What Scan's end tells. -/
def ScanTold (w0 Wi : World) (g gp : Nat) (Q : Nat → Prop) (F : Value) (ea : Addr) (R : Option ByteArray × Nat × ByteArray) (e : Ending) (W : World) : Prop :=
  e = .returned (.bool R.1.isSome) ∧ Bl w0 Wi g gp Q W ∧ ∃ tok, PhS W g gp F tok (Okb w0 Wi Q) ea R.2.1 R.2.2 ∧ ∀ t, R.1 = some t → (convert 46 9 tok).run Tryd.prog W = .ok (.string t) W
set_option maxHeartbeats 60000000 in
set_option maxRecDepth 100000 in
theorem scanner_calls (w0 Wi : World) (g gp : Nat) (Q : Nat → Prop) (F tok : Value) (ea : Addr) (sp : ByteArray → Bool → Out) (hsp : Split w0 F sp) (hE : Eof w0 ea) (ph : Nat) (d : ByteArray) (hB : Below w0.heap.size w0 Wi) (hg : w0.heap.size ≤ g) (hgp : w0.heap.size ≤ gp) (hne : g ≠ gp) (hP : PhS Wi g gp F tok (Okb w0 Wi Q) ea ph d) :
    Calls Tryd.prog 40 #[.pointer (some ⟨g, 0, none⟩)] Wi (ScanTold w0 Wi g gp Q F ea (run sp ph d)) := by
  have HSP := Aside0.mk hsp
  have HE := Aside0.mk hE
  have HG := Aside0.mk (And.intro hg (And.intro hgp hne))
  obtain ⟨R, hR⟩ : ∃ R, R = run sp ph d := ⟨_, rfl⟩
  rw [← hR]
  have HR := Aside0.mk hR.symm
  have HB := Aside0.mk hB
  have hc : ∃ tok buf er st en emp called, Sc Wi g gp F tok buf er st en emp called := by
    rcases hP with ⟨_, gt, M, c, called, h, _⟩ | ⟨_, gb, st, en, emp, called, h, _⟩ | ⟨_, gb, st, en, emp, called, h, _⟩
    · exact ⟨_, _, _, _, _, _, _, h⟩
    · exact ⟨_, _, _, _, _, _, _, h⟩
    · exact ⟨_, _, _, _, _, _, _, h⟩
  obtain ⟨_, _, _, _, _, _, _, hc⟩ := hc
  obtain ⟨⟨-, -, -, -, -, -, -, -, -, -, c10⟩, fz⟩ := hc.cells
  have f9 := fz 9
  obtain ⟨⟨-, -, -, -, -, -, -, -, -, c9, -⟩, -⟩ := hc.cells
  have HPC : Aside0 (PhS (Wi.setCell ⟨g, 9, none⟩ (.bool true)) g gp F tok (Okb w0 Wi Q) ea ph d) := ⟨by
    rcases hP with ⟨e, gt, M, c, called, h1, h2, h3, h4, h5, h6, h7⟩ | ⟨e, gb, st, en, emp, called, h1, h2, ⟨T, c, h3⟩, h4, h5, h6⟩ | ⟨e, gb, st, en, emp, called, h1, h2, ⟨T, c, h3⟩, h4, h5, h6⟩
    · exact .inl ⟨e, gt, M, c, true, h1.putCalled, h2.chg ((Chg.refl [g] Wi).setCell (.inl (by simp)) _) (by simp; exact Ne.symm hne), h3, h4.chg ((Chg.refl [g] Wi).setCell (.inl (by simp)) _) (by simpa using h6), h5, h6, h7⟩
    · exact .inr (.inl ⟨e, gb, st, en, emp, true, h1.putCalled, h2.chg ((Chg.refl [g] Wi).setCell (.inl (by simp)) _) (by simpa using h5), ⟨T, c, h3.chg ((Chg.refl [g] Wi).setCell (.inl (by simp)) _) (by simp; exact Ne.symm hne)⟩, h4, h5, h6⟩)
    · exact .inr (.inr ⟨e, gb, st, en, emp, true, h1.putCalled, h2.chg ((Chg.refl [g] Wi).setCell (.inl (by simp)) _) (by simpa using h5), ⟨T, c, h3.chg ((Chg.refl [g] Wi).setCell (.inl (by simp)) _) (by simp; exact Ne.symm hne)⟩, h4, h5, h6⟩)⟩
  have HBC : Aside0 (Bl w0 Wi g gp Q (Wi.setCell ⟨g, 9, none⟩ (.bool true))) := ⟨(show Bl w0 Wi g gp Q Wi from ⟨hB, Nat.le_refl _, fun _ _ _ _ _ => rfl, hg, hgp⟩).step ((Chg.refl [g] Wi).setCell (.inl (by simp)) _) (fun i hi => .inl (by simpa using hi))⟩
  clear hsp hE hR hB hP hc fz
  go_enter Tryd.func40, Tryd.ntmps40
  go_wp2_with fail
  go_loopw [2] (fun v2 wr => ∃ ph d tok, Aside0 (Bl w0 Wi g gp Q wr) ∧ Aside0 (PhS wr g gp F tok (Okb w0 Wi Q) ea ph d) ∧ Aside0 (run sp ph d = R)) (fun _ wr => phM wr g)
  case atStart => exact ⟨ph, d, tok, HBC, HPC, HR⟩
  case round =>
    clear HBC HPC HR HB c10 f9 c9
    obtain ⟨ph, d, tok, HB, HP, HR⟩ := hrel
    have HM := Aside0.mk HP.out.m
    go_upto_region 4 with fail
    go_cut [33] (fun v33 wx => v33 = .bool (decide (ph = 2) || (decide (ph = 1) && decide (0 < d.size))) ∧ Aside0 (Bl w0 Wi g gp Q wx) ∧ Aside0 (PhS wx g gp F tok (Okb w0 Wi Q) ea ph d))
    case first =>
      rename_i Q1 K1 hK1 K0 hK0 J K2 hJ1 hJ2
      clear hK1 hK0
      as_aux_lemma =>
      clear HSP HE HR
      have HPN : Aside0 (∀ n, PhS (wr.drewN n) g gp F tok (Okb w0 Wi Q) ea ph d) := ⟨fun n => HP.out.chg0 ((Chg.refl [] wr).drewN n)⟩
      have HBN : Aside0 (∀ n, Bl w0 Wi g gp Q (wr.drewN n)) := ⟨fun n => HB.out.drewN n⟩
      rcases HP.out with ⟨rfl, gt, M, c, called, h1, h2⟩ | ⟨rfl, gb, st, en, emp, called, h1, h2, h3, h4, h5, h6, h7, h8⟩ | ⟨rfl, gb, st, en, emp, called, h1, h2, h3, h4, h5, h6, h7, h8⟩
      · obtain ⟨⟨c0, c1, c2, c3, c4, c5, c6, c7, c8, c9, c10⟩, fz⟩ := h1.cells
        have e1 := nil_neq wr
        clear h1 h2 HP HB fz
        go_quiet (fail)
        go_wp2_with fail
        go_meet
        exact ⟨rfl, ⟨HBN.out _⟩, ⟨HPN.out _⟩⟩
      · obtain ⟨⟨c0, c1, c2, c3, c4, c5, c6, c7, c8, c9, c10⟩, fz⟩ := h1.cells
        have e1 := nil_neq wr
        obtain ⟨b, hb⟩ : ∃ b, b = decide (0 < d.size) := ⟨_, rfl⟩
        have hb2 : decide ((st : Int) < (en : Int)) = b := by rw [hb]; exact decide_eq_decide.2 (by omega)
        have hb3 : decide (st < en) = b := by rw [hb]; exact decide_eq_decide.2 (by omega)
        have HBB := Aside0.mk hb
        clear h1 h2 h3 HP HB hb fz h7
        cases b
        all_goals go_quiet (fail)
        all_goals go_wp2_with fail
        all_goals go_meet
        all_goals exact ⟨by rw [← HBB.out]; rfl, ⟨HBN.out _⟩, ⟨HPN.out _⟩⟩
      · obtain ⟨⟨c0, c1, c2, c3, c4, c5, c6, c7, c8, c9, c10⟩, fz⟩ := h1.cells
        have e1 := eof_neq wr ea
        obtain ⟨b, hb⟩ : ∃ b, b = decide ((st : Int) < (en : Int)) := ⟨_, rfl⟩
        have hb2 := hb.symm
        have hb3 : decide (st < en) = b := by rw [hb]; exact decide_eq_decide.2 (by omega)
        unfold Eo at c7
        clear h1 h2 h3 HP HB hb fz h7
        cases b
        all_goals go_quiet (fail)
        all_goals go_wp2_with fail
        all_goals go_meet
        all_goals exact ⟨rfl, ⟨HBN.out _⟩, ⟨HPN.out _⟩⟩
    case rest =>
      as_aux_lemma =>
      clear HB HP
      obtain ⟨rfl, HB, HP⟩ := hcut
      obtain ⟨b33, hb33⟩ : ∃ b, b = (decide (ph = 2) || (decide (ph = 1) && decide (0 < d.size))) := ⟨_, rfl⟩
      rw [← hb33]
      have HB33 := Aside0.mk hb33
      clear hb33
      go_upto_if 33 with fail
      go_cut [] (fun wx => ∃ ph' d' tok', Aside0 (Bl w0 Wi g gp Q wx) ∧ Aside0 (PhS wx g gp F tok' (Okb w0 Wi Q) ea ph' d') ∧ Aside0 ((ph' = 0 ∧ goA sp d' = R ∧ phM wr g = 2) ∨ (ph' = 1 ∧ goC sp d' = R ∧ phM wr g = 1) ∨ (ph' = 2 ∧ R = (none, 2, ByteArray.empty))))
      case first =>
        as_aux_lemma =>
        cases b33 with
        | false =>
          go_wp2_with fail
          go_meet
          have hb := HB33.out
          refine ⟨ph, d, tok, HB, HP, ⟨?_⟩⟩
          rcases HP.out with ⟨rfl, h⟩ | ⟨rfl, h⟩ | ⟨rfl, h⟩
          · exact .inl ⟨rfl, HR.out, HM.out⟩
          · refine .inr (.inl ⟨rfl, ?_, HM.out⟩)
            have hz : d.size = 0 := by
              by_cases e : 0 < d.size
              · simp [e] at hb
              · omega
            have := HR.out
            rw [run, goB, if_pos hz] at this
            exact this
          · simp at hb
        | true =>
          have hgen : ∃ er eof, ((eof = false ∧ er = Value.nilIface ∧ ph = 1 ∧ 0 < d.size) ∨ (eof = true ∧ er = Eo ea ∧ ph = 2)) ∧ Ph1 wc g gp F tok (Okb w0 Wi Q) er d := by
            have hb := HB33.out
            rcases HP.out with ⟨rfl, h⟩ | ⟨rfl, h⟩ | ⟨rfl, h⟩
            · simp at hb
            · refine ⟨_, false, .inl ⟨rfl, rfl, rfl, ?_⟩, h⟩
              by_cases e : 0 < d.size
              · exact e
              · simp [e] at hb
            · exact ⟨_, true, .inr ⟨rfl, rfl, rfl⟩, h⟩
          obtain ⟨er, eof, hph, gb, st, en, emp, called, h1, h2, ⟨T, cT, h3⟩, h4, h5, h6, h7, h8⟩ := hgen
          have HPH := Aside0.mk hph
          have hneq : ∀ W, (binOp .neq 48 er .nilIface).run Tryd.prog W = .ok (.bool eof) W := by
            rcases hph with ⟨rfl, rfl, _⟩ | ⟨rfl, rfl, _⟩
            · exact nilNeq
            · exact fun W => eofNeq W ea
          obtain ⟨⟨c0, c1, c2, c3, c4, c5, c6, c7, c8, c9, c10⟩, fz⟩ := h1.cells
          have hdn : d.size = en - st := by omega
          have HD : Aside0 (d.size = en - st ∧ st ≤ en ∧ en ≤ 1000) := ⟨⟨hdn, by omega, h8⟩⟩
          have HS1 := Aside0.mk h1
          have HW1 := Aside0.mk h2
          have HP1 := Aside0.mk h3
          have HGB := Aside0.mk (And.intro h4 (And.intro h5 h6))
          have HBN : Aside0 (∀ n, Bl w0 Wi g gp Q (wc.drewN n)) := ⟨fun n => HB.out.drewN n⟩
          have HCL : Aside0 (∀ W', Chg [] wc W' → CallsF F (.slice (some ⟨gb, st, none⟩) (en - st) (4096 - st)) eof W' (Told W' gb 4096 st (4096 - st) (en - st) (sp d eof))) := ⟨fun W' hc => by
            have := HSP.out.call W' (HB.out.step hc (by simp)).below gb 4096 st (4096 - st) d eof (h2.chg hc (by simp)) h6.1 (by omega) (by omega)
            rwa [hdn] at this⟩
          have k1 : ¬ 4096 = st := by omega
          have k2 : st ≤ en := by omega
          have k3 : (st : Int) ≤ (en : Int) := by omega
          have k4 : en ≤ 4096 := by omega
          have k5 : (en : Int) ≤ 4096 := by omega
          have k6 : (0 : Int) ≤ (st : Int) := by omega
          have k7 : (0 : Int) ≤ (en : Int) := by omega
          clear h1 h2 h3 h4 h5 h6 h7 h8 hdn hph fz HP HB33
          go_upto_region 5 with fail
          go_cut [3, 4, 5] (fun v3 v4 v5 wy => ∃ tv, v3 = .int .i64 ((sp d eof).adv : Nat) ∧ v4 = tv ∧ v5 = .nilIface ∧ Aside0 (Bl w0 Wi g gp Q wy) ∧ Aside0 (Sc wy g gp F tok (.slice (some ⟨gb, 0, none⟩) 4096 4096) er st en emp called) ∧ Aside0 (Win wy gb 4096 st (sp d eof).data) ∧ Aside0 (Pc wy gp (.slice T 0 cT)) ∧ Aside0 ((sp d eof).data.size = en - st) ∧
            Aside0 (match (sp d eof).tok with
              | none => tv = .slice none 0 0
              | some (s1, e1) => s1 ≤ e1 ∧ e1 ≤ (sp d eof).data.size ∧ tv = tokV gb st (4096 - st) s1 e1))
          case first =>
            as_aux_lemma =>
            rcases HPH.out with ⟨he, her, _⟩ | ⟨he, her, _⟩
            · subst he her
              have e0 := nilNeq
              clear hneq
              as_aux_lemma =>
              have HKEEP : Aside0 (∀ W' W'', Chg [] wc W' → Chg [gb] W' W'' → Bl w0 Wi g gp Q W'' ∧ Sc W'' g gp F tok (.slice (some ⟨gb, 0, none⟩) 4096 4096) .nilIface st en emp called ∧ Pc W'' gp (.slice T 0 cT)) := ⟨fun W' W'' h1 h2 => by
                have hgb := HGB.out
                have hcc := (h1.mono (T := [gb]) (by simp)).trans h2
                exact ⟨HB.out.step hcc (fun i hi => .inr (.inr (by simp at hi; subst hi; exact hgb.2.2))), HS1.out.chg hcc (by simp; exact Ne.symm hgb.2.1), HP1.out.chg hcc (by simp; exact Ne.symm hgb.1)⟩⟩
              rcases (show (∃ sv, F = .func (.func 26) #[.agg sv] #[]) ∨ F = .func (.func 39) #[] #[] by rcases HCL.out wc (Chg.refl _ _) with ⟨sv, e, _⟩ | ⟨e, _⟩; exact .inl ⟨sv, e⟩; exact .inr e) with ⟨sv, rfl⟩ | rfl
              · have HC2 : Aside0 (∀ W', Chg [] wc W' → Calls Tryd.prog 26 #[.agg sv, .slice (some ⟨gb, st, none⟩) (en - st) (4096 - st), .bool false] W' (Told W' gb 4096 st (4096 - st) (en - st) (sp d false))) := ⟨fun W' hc => by
                  rcases HCL.out W' hc with ⟨sv2, e, h⟩ | ⟨e, h⟩
                  · simp at e; subst e; exact h
                  · simp at e⟩
                clear HCL
                go_region_held3 (fun w' => w'.cell? ⟨g, 1, none⟩ = some (.func (.func 26) #[.agg sv] #[]) ∧ w'.cell? ⟨g, 4, none⟩ = some (.slice (some ⟨gb, 0, none⟩) 4096 4096) ∧ w'.cell? ⟨g, 5, none⟩ = some (.int .i64 st) ∧ w'.cell? ⟨g, 6, none⟩ = some (.int .i64 en) ∧ w'.cell? ⟨g, 7, none⟩ = some .nilIface) (first | exact ⟨c1, c4, c5, c6, c7⟩ | exact ⟨c1, c4, c5, c6, c7⟩ | exact HKS.out) ((go_at_call 26; refine (HC2.out _ (by repeat (first | exact Chg.refl _ _ | refine Chg.drew ?_ | refine Chg.drewN ?_ _))).mono ?_; rintro e wy ⟨tv, rfl, hw, hz, hc, ht⟩; have HKP := Aside0.mk (HKEEP.out _ _ (by repeat (first | exact Chg.refl _ _ | refine Chg.drew ?_ | refine Chg.drewN ?_ _)) hc); obtain ⟨⟨y0, y1, y2, y3, y4, y5, y6, y7, y8, y9, y10⟩, fy⟩ := HKP.out.2.1.cells; have HKS := Aside0.mk (And.intro y1 (And.intro y4 (And.intro y5 (And.intro y6 y7)))); have HFF : Aside0 (∀ W, Chg [] wy W → Bl w0 Wi g gp Q W ∧ Sc W g gp _ tok (.slice (some ⟨gb, 0, none⟩) 4096 4096) _ st en emp called ∧ Pc W gp (.slice T 0 cT) ∧ Win W gb 4096 st _) := ⟨fun W hW => ⟨HKP.out.1.step hW (by simp), HKP.out.2.1.chg hW (by simp), HKP.out.2.2.chg hW (by simp), hw.chg hW (by simp)⟩⟩; have HT := Aside0.mk (And.intro hz ht); clear hw hz hc ht y0 y1 y2 y3 y4 y5 y6 y7 y8 y9 y10 fy HKP HKEEP))
                all_goals go_wp2_with fail
                all_goals go_meet
                all_goals (obtain ⟨q1, q2, q3, q4⟩ := HFF.out _ (by repeat (first | exact Chg.refl _ _ | refine Chg.drew ?_ | refine Chg.drewN ?_ _)); exact ⟨_, rfl, rfl, rfl, ⟨q1⟩, ⟨q2⟩, ⟨q4⟩, ⟨q3⟩, ⟨HT.out.1⟩, ⟨HT.out.2⟩⟩)
              · have HC2 : Aside0 (∀ W', Chg [] wc W' → Calls Tryd.prog 39 #[.slice (some ⟨gb, st, none⟩) (en - st) (4096 - st), .bool false] W' (Told W' gb 4096 st (4096 - st) (en - st) (sp d false))) := ⟨fun W' hc => by
                  rcases HCL.out W' hc with ⟨sv2, e, h⟩ | ⟨e, h⟩
                  · simp at e
                  · exact h⟩
                clear HCL
                go_region_held3 (fun w' => w'.cell? ⟨g, 1, none⟩ = some (.func (.func 39) #[] #[]) ∧ w'.cell? ⟨g, 4, none⟩ = some (.slice (some ⟨gb, 0, none⟩) 4096 4096) ∧ w'.cell? ⟨g, 5, none⟩ = some (.int .i64 st) ∧ w'.cell? ⟨g, 6, none⟩ = some (.int .i64 en) ∧ w'.cell? ⟨g, 7, none⟩ = some .nilIface) (first | exact ⟨c1, c4, c5, c6, c7⟩ | exact ⟨c1, c4, c5, c6, c7⟩ | exact HKS.out) ((go_at_call 39; refine (HC2.out _ (by repeat (first | exact Chg.refl _ _ | refine Chg.drew ?_ | refine Chg.drewN ?_ _))).mono ?_; rintro e wy ⟨tv, rfl, hw, hz, hc, ht⟩; have HKP := Aside0.mk (HKEEP.out _ _ (by repeat (first | exact Chg.refl _ _ | refine Chg.drew ?_ | refine Chg.drewN ?_ _)) hc); obtain ⟨⟨y0, y1, y2, y3, y4, y5, y6, y7, y8, y9, y10⟩, fy⟩ := HKP.out.2.1.cells; have HKS := Aside0.mk (And.intro y1 (And.intro y4 (And.intro y5 (And.intro y6 y7)))); have HFF : Aside0 (∀ W, Chg [] wy W → Bl w0 Wi g gp Q W ∧ Sc W g gp _ tok (.slice (some ⟨gb, 0, none⟩) 4096 4096) _ st en emp called ∧ Pc W gp (.slice T 0 cT) ∧ Win W gb 4096 st _) := ⟨fun W hW => ⟨HKP.out.1.step hW (by simp), HKP.out.2.1.chg hW (by simp), HKP.out.2.2.chg hW (by simp), hw.chg hW (by simp)⟩⟩; have HT := Aside0.mk (And.intro hz ht); clear hw hz hc ht y0 y1 y2 y3 y4 y5 y6 y7 y8 y9 y10 fy HKP HKEEP))
                all_goals go_wp2_with fail
                all_goals go_meet
                all_goals (obtain ⟨q1, q2, q3, q4⟩ := HFF.out _ (by repeat (first | exact Chg.refl _ _ | refine Chg.drew ?_ | refine Chg.drewN ?_ _)); exact ⟨_, rfl, rfl, rfl, ⟨q1⟩, ⟨q2⟩, ⟨q4⟩, ⟨q3⟩, ⟨HT.out.1⟩, ⟨HT.out.2⟩⟩)
            · subst he her
              have e0 := fun W => eofNeq W ea
              clear hneq
              unfold Eo at c7
              as_aux_lemma =>
              have HKEEP : Aside0 (∀ W' W'', Chg [] wc W' → Chg [gb] W' W'' → Bl w0 Wi g gp Q W'' ∧ Sc W'' g gp F tok (.slice (some ⟨gb, 0, none⟩) 4096 4096) (.iface 106 (.pointer (some ea))) st en emp called ∧ Pc W'' gp (.slice T 0 cT)) := ⟨fun W' W'' h1 h2 => by
                have hgb := HGB.out
                have hcc := (h1.mono (T := [gb]) (by simp)).trans h2
                exact ⟨HB.out.step hcc (fun i hi => .inr (.inr (by simp at hi; subst hi; exact hgb.2.2))), HS1.out.chg hcc (by simp; exact Ne.symm hgb.2.1), HP1.out.chg hcc (by simp; exact Ne.symm hgb.1)⟩⟩
              rcases (show (∃ sv, F = .func (.func 26) #[.agg sv] #[]) ∨ F = .func (.func 39) #[] #[] by rcases HCL.out wc (Chg.refl _ _) with ⟨sv, e, _⟩ | ⟨e, _⟩; exact .inl ⟨sv, e⟩; exact .inr e) with ⟨sv, rfl⟩ | rfl
              · have HC2 : Aside0 (∀ W', Chg [] wc W' → Calls Tryd.prog 26 #[.agg sv, .slice (some ⟨gb, st, none⟩) (en - st) (4096 - st), .bool true] W' (Told W' gb 4096 st (4096 - st) (en - st) (sp d true))) := ⟨fun W' hc => by
                  rcases HCL.out W' hc with ⟨sv2, e, h⟩ | ⟨e, h⟩
                  · simp at e; subst e; exact h
                  · simp at e⟩
                clear HCL
                go_region_held3 (fun w' => w'.cell? ⟨g, 1, none⟩ = some (.func (.func 26) #[.agg sv] #[]) ∧ w'.cell? ⟨g, 4, none⟩ = some (.slice (some ⟨gb, 0, none⟩) 4096 4096) ∧ w'.cell? ⟨g, 5, none⟩ = some (.int .i64 st) ∧ w'.cell? ⟨g, 6, none⟩ = some (.int .i64 en) ∧ w'.cell? ⟨g, 7, none⟩ = some (.iface 106 (.pointer (some ea)))) (first | exact ⟨c1, c4, c5, c6, c7⟩ | exact ⟨c1, c4, c5, c6, c7⟩ | exact HKS.out) ((go_at_call 26; refine (HC2.out _ (by repeat (first | exact Chg.refl _ _ | refine Chg.drew ?_ | refine Chg.drewN ?_ _))).mono ?_; rintro e wy ⟨tv, rfl, hw, hz, hc, ht⟩; have HKP := Aside0.mk (HKEEP.out _ _ (by repeat (first | exact Chg.refl _ _ | refine Chg.drew ?_ | refine Chg.drewN ?_ _)) hc); obtain ⟨⟨y0, y1, y2, y3, y4, y5, y6, y7, y8, y9, y10⟩, fy⟩ := HKP.out.2.1.cells; have HKS := Aside0.mk (And.intro y1 (And.intro y4 (And.intro y5 (And.intro y6 y7)))); have HFF : Aside0 (∀ W, Chg [] wy W → Bl w0 Wi g gp Q W ∧ Sc W g gp _ tok (.slice (some ⟨gb, 0, none⟩) 4096 4096) _ st en emp called ∧ Pc W gp (.slice T 0 cT) ∧ Win W gb 4096 st _) := ⟨fun W hW => ⟨HKP.out.1.step hW (by simp), HKP.out.2.1.chg hW (by simp), HKP.out.2.2.chg hW (by simp), hw.chg hW (by simp)⟩⟩; have HT := Aside0.mk (And.intro hz ht); clear hw hz hc ht y0 y1 y2 y3 y4 y5 y6 y7 y8 y9 y10 fy HKP HKEEP))
                all_goals go_wp2_with fail
                all_goals go_meet
                all_goals (obtain ⟨q1, q2, q3, q4⟩ := HFF.out _ (by repeat (first | exact Chg.refl _ _ | refine Chg.drew ?_ | refine Chg.drewN ?_ _)); exact ⟨_, rfl, rfl, rfl, ⟨q1⟩, ⟨q2⟩, ⟨q4⟩, ⟨q3⟩, ⟨HT.out.1⟩, ⟨HT.out.2⟩⟩)
              · have HC2 : Aside0 (∀ W', Chg [] wc W' → Calls Tryd.prog 39 #[.slice (some ⟨gb, st, none⟩) (en - st) (4096 - st), .bool true] W' (Told W' gb 4096 st (4096 - st) (en - st) (sp d true))) := ⟨fun W' hc => by
                  rcases HCL.out W' hc with ⟨sv2, e, h⟩ | ⟨e, h⟩
                  · simp at e
                  · exact h⟩
                clear HCL
                go_region_held3 (fun w' => w'.cell? ⟨g, 1, none⟩ = some (.func (.func 39) #[] #[]) ∧ w'.cell? ⟨g, 4, none⟩ = some (.slice (some ⟨gb, 0, none⟩) 4096 4096) ∧ w'.cell? ⟨g, 5, none⟩ = some (.int .i64 st) ∧ w'.cell? ⟨g, 6, none⟩ = some (.int .i64 en) ∧ w'.cell? ⟨g, 7, none⟩ = some (.iface 106 (.pointer (some ea)))) (first | exact ⟨c1, c4, c5, c6, c7⟩ | exact ⟨c1, c4, c5, c6, c7⟩ | exact HKS.out) ((go_at_call 39; refine (HC2.out _ (by repeat (first | exact Chg.refl _ _ | refine Chg.drew ?_ | refine Chg.drewN ?_ _))).mono ?_; rintro e wy ⟨tv, rfl, hw, hz, hc, ht⟩; have HKP := Aside0.mk (HKEEP.out _ _ (by repeat (first | exact Chg.refl _ _ | refine Chg.drew ?_ | refine Chg.drewN ?_ _)) hc); obtain ⟨⟨y0, y1, y2, y3, y4, y5, y6, y7, y8, y9, y10⟩, fy⟩ := HKP.out.2.1.cells; have HKS := Aside0.mk (And.intro y1 (And.intro y4 (And.intro y5 (And.intro y6 y7)))); have HFF : Aside0 (∀ W, Chg [] wy W → Bl w0 Wi g gp Q W ∧ Sc W g gp _ tok (.slice (some ⟨gb, 0, none⟩) 4096 4096) _ st en emp called ∧ Pc W gp (.slice T 0 cT) ∧ Win W gb 4096 st _) := ⟨fun W hW => ⟨HKP.out.1.step hW (by simp), HKP.out.2.1.chg hW (by simp), HKP.out.2.2.chg hW (by simp), hw.chg hW (by simp)⟩⟩; have HT := Aside0.mk (And.intro hz ht); clear hw hz hc ht y0 y1 y2 y3 y4 y5 y6 y7 y8 y9 y10 fy HKP HKEEP))
                all_goals go_wp2_with fail
                all_goals go_meet
                all_goals (obtain ⟨q1, q2, q3, q4⟩ := HFF.out _ (by repeat (first | exact Chg.refl _ _ | refine Chg.drew ?_ | refine Chg.drewN ?_ _)); exact ⟨_, rfl, rfl, rfl, ⟨q1⟩, ⟨q2⟩, ⟨q4⟩, ⟨q3⟩, ⟨HT.out.1⟩, ⟨HT.out.2⟩⟩)
          case rest =>
            as_aux_lemma =>
            clear HBN HCL HS1 HW1 HP1 HB k1 k2 k3 k4 k5 c0 c1 c2 c3 c4 c5 c6 c7 c8 c9 c10
            obtain ⟨tv, rfl, rfl, rfl, HB, HS, HW, HPc, HZ, HTK⟩ := hcut
            have HAD : Aside0 ((sp d eof).adv ≤ d.size ∧ (eof = true → (sp d eof).tok.isSome = true → 0 < (sp d eof).adv)) := ⟨⟨HSP.out.adv d eof, fun e => by subst e; exact HSP.out.pos d⟩⟩
            have HQ : Aside0 ((eof = false → (match (sp d eof).tok with | some (s1, e1) => (some (cut (sp d eof).data s1 e1), 1, cut (sp d eof).data (sp d eof).adv d.size) | none => goC sp (cut (sp d eof).data (sp d eof).adv d.size)) = R ∧ phM wr g = 1) ∧ (eof = true → (match (sp d eof).tok with | some (s1, e1) => (some (cut (sp d eof).data s1 e1), 2, cut (sp d eof).data (sp d eof).adv d.size) | none => (none, 2, ByteArray.empty)) = R)) := ⟨by
              have hr := HR.out
              have hm := HM.out
              rcases HPH.out with ⟨rfl, rfl, rfl, hd⟩ | ⟨rfl, rfl, rfl⟩
              · refine ⟨fun _ => ⟨?_, by rw [hm]⟩, fun h => by cases h⟩
                rw [run, goB, if_neg (by omega)] at hr
                exact hr
              · refine ⟨fun h => (by cases h), fun _ => ?_⟩
                rw [run, goC] at hr
                · exact hr
                · intro h; cases h
                · intro h; cases h⟩
            obtain ⟨RR, hRR⟩ : ∃ RR, RR = sp d eof := ⟨_, rfl⟩
            rw [← hRR] at HW HZ HTK HAD HQ
            rw [← hRR]
            clear hRR HSP HE HR HM
            have hneq2 : ∀ W, (binOp .neq 48 .nilIface .nilIface).run Tryd.prog W = .ok (.bool false) W := nilNeq
            have hrow := rowNeq
            have heq1 := nilEql
            have heq2 := fun W => eofEql W ea
            clear hneq
            obtain ⟨adv, tk, dat⟩ := RR
            cases tk with
            | none =>
              obtain rfl := HTK.out
              have HADV : Aside0 (∀ W, Sc W g gp F tok (.slice (some ⟨gb, 0, none⟩) 4096 4096) er st en emp called → Calls Tryd.prog 49 #[.pointer (some ⟨g, 0, none⟩), .int .i64 adv] W fun e W' => e = .returned (.bool true) ∧ Sc W' g gp F tok (.slice (some ⟨gb, 0, none⟩) 4096 4096) er (st + adv) en emp called ∧ Chg [g] W W') := ⟨fun W h => advance_calls h adv (by have := HAD.out.1; have := HD.out; simp only at *; omega) (by have := HD.out; omega)⟩
              go_wp2_with (go_at_call 49; refine (HADV.out _ HS.out).mono ?_; rintro e w1 ⟨rfl, hs1, hc1⟩; obtain ⟨⟨y0, y1, y2, y3, y4, y5, y6, y7, y8, y9, y10⟩, fz⟩ := hs1.cells; have f3 := fz 3; have HS2 := Aside0.mk hs1; have HC2 := Aside0.mk hc1; clear hs1 hc1 fz HS HADV)
              go_meet
              have hg := HG.out
              have hgb := HGB.out
              have hd := HD.out
              have had := HAD.out.1
              have hz := HZ.out
              (try simp only at had)
              (try simp only at hz)
              have hcc : Chg [g] wc (w1.setCell ⟨g, 3, none⟩ (.slice none 0 0)) := HC2.out.setCell (.inl (by simp)) _
              have hb2 : Bl w0 Wi g gp Q (w1.setCell ⟨g, 3, none⟩ (.slice none 0 0)) := HB.out.step hcc (fun i hi => .inl (by simpa using hi))
              have hph1 : Ph1 (w1.setCell ⟨g, 3, none⟩ (.slice none 0 0)) g gp F (.slice none 0 0) (Okb w0 Wi Q) er (cut dat adv d.size) := by
                refine ⟨gb, st + adv, en, emp, called, HS2.out.putTok _, ?_, ⟨T, cT, HPc.out.chg hcc (by simp; exact Ne.symm hg.2.2)⟩, hgb.1, hgb.2.1, hgb.2.2, ?_, hd.2.2⟩
                · have := (HW.out.chg hcc (by simpa using hgb.2.1)).suf adv (by (try simp only); omega)
                  (try simp only at this)
                  rw [show dat.size = d.size by omega] at this
                  exact this
                · rw [show d.size = dat.size by omega, cut_size _ _ _ (Nat.le_refl _)]; omega
              cases eof with
              | false => exact ⟨1, _, _, ⟨hb2⟩, ⟨.inr (.inl ⟨rfl, by rcases HPH.out with ⟨_, rfl, _⟩ | ⟨e, _⟩; exact hph1; cases e⟩)⟩, ⟨.inr (.inl ⟨rfl, (HQ.out.1 rfl).1, (HQ.out.1 rfl).2⟩)⟩⟩
              | true => exact ⟨2, _, _, ⟨hb2⟩, ⟨.inr (.inr ⟨rfl, by rcases HPH.out with ⟨e, _⟩ | ⟨_, rfl, _⟩; cases e; exact hph1⟩)⟩, ⟨.inr (.inr ⟨rfl, (HQ.out.2 rfl).symm⟩)⟩⟩
            | some t =>
              obtain ⟨s1, e1⟩ := t
              obtain ⟨q1, q2, q3⟩ := HTK.out
              (try simp only at q2)
              have hz := HZ.out
              have hd := HD.out
              (try simp only at hz)
              unfold tokV at q3
              rw [if_neg (by omega)] at q3
              subst q3
              have HQ1 := Aside0.mk (And.intro q1 q2)
              have HADV : Aside0 (∀ W, Sc W g gp F tok (.slice (some ⟨gb, 0, none⟩) 4096 4096) er st en emp called → Calls Tryd.prog 49 #[.pointer (some ⟨g, 0, none⟩), .int .i64 adv] W fun e W' => e = .returned (.bool true) ∧ Sc W' g gp F tok (.slice (some ⟨gb, 0, none⟩) 4096 4096) er (st + adv) en emp called ∧ Chg [g] W W') := ⟨fun W h => advance_calls h adv (by have := HAD.out.1; have := HD.out; simp only at *; omega) (by have := HD.out; omega)⟩
              have hpos : eof = true → decide ((adv : Int) > 0) = true := fun e => decide_eq_true (by have := HAD.out.2 e rfl; simp only at this; omega)
              have hpos2 : eof = true → decide (0 < adv) = true := fun e => decide_eq_true (by have := HAD.out.2 e rfl; simp only at this; omega)
              have HFIN : Aside0 (∀ w1, Sc w1 g gp F tok (.slice (some ⟨gb, 0, none⟩) 4096 4096) er (st + adv) en emp called → Chg [g] wc w1 → ScanTold w0 Wi g gp Q F ea R (.returned (.bool true)) ((w1.setCell ⟨g, 3, none⟩ (.slice (some ⟨gb, st + s1, none⟩) (e1 - s1) (4096 - st - s1))).setCell ⟨g, 8, none⟩ (.int .i64 0))) := ⟨fun w1 hs hc => by
                have hg := HG.out
                have hgb := HGB.out
                have had := HAD.out.1
                (try simp only at had)
                have hcc : Chg [g] wc ((w1.setCell ⟨g, 3, none⟩ (.slice (some ⟨gb, st + s1, none⟩) (e1 - s1) (4096 - st - s1))).setCell ⟨g, 8, none⟩ (.int .i64 0)) := (hc.setCell (.inl (by simp)) _).setCell (.inl (by simp)) _
                have hb2 := HB.out.step hcc (fun i hi => .inl (by simpa using hi))
                have hw2 := HW.out.chg hcc (by simpa using hgb.2.1)
                (try simp only at hw2)
                have hph1 : Ph1 ((w1.setCell ⟨g, 3, none⟩ (.slice (some ⟨gb, st + s1, none⟩) (e1 - s1) (4096 - st - s1))).setCell ⟨g, 8, none⟩ (.int .i64 0)) g gp F (.slice (some ⟨gb, st + s1, none⟩) (e1 - s1) (4096 - st - s1)) (Okb w0 Wi Q) er (cut dat adv d.size) := by
                  refine ⟨gb, st + adv, en, 0, called, (hs.putTok _).putEmp, ?_, ⟨T, cT, HPc.out.chg hcc (by simp; exact Ne.symm hg.2.2)⟩, hgb.1, hgb.2.1, hgb.2.2, ?_, hd.2.2⟩
                  · have := hw2.suf adv (by omega)
                    rw [show dat.size = d.size by omega] at this
                    exact this
                  · rw [show d.size = dat.size by omega, cut_size _ _ _ (Nat.le_refl _)]; omega
                have hconv : (convert 46 9 (.slice (some ⟨gb, st + s1, none⟩) (e1 - s1) (4096 - st - s1))).run Tryd.prog ((w1.setCell ⟨g, 3, none⟩ (.slice (some ⟨gb, st + s1, none⟩) (e1 - s1) (4096 - st - s1))).setCell ⟨g, 8, none⟩ (.int .i64 0)) = .ok (.string (cut dat s1 e1)) _ := hw2.string (by omega) s1 e1 q1 q2 Tryd.underlying46 Tryd.underlying5 Tryd.underlying9 _ (.inr rfl)
                cases eof with
                | false =>
                  have hr := (HQ.out.1 rfl).1
                  simp only at hr
                  subst hr
                  refine ⟨rfl, hb2, _, .inr (.inl ⟨rfl, by rcases HPH.out with ⟨_, rfl, _⟩ | ⟨e, _⟩; exact hph1; cases e⟩), fun t ht => ?_⟩
                  injection ht with ht
                  rw [← ht]
                  exact hconv
                | true =>
                  have hr := HQ.out.2 rfl
                  simp only at hr
                  subst hr
                  refine ⟨rfl, hb2, _, .inr (.inr ⟨rfl, by rcases HPH.out with ⟨e, _⟩ | ⟨_, rfl, _⟩; cases e; exact hph1⟩), fun t ht => ?_⟩
                  injection ht with ht
                  rw [← ht]
                  exact hconv⟩
              clear q1 q2 hz hd HQ HQ1 HB HW HPc HZ HTK HAD
              cases eof with
              | false =>
                clear hpos hpos2
                have her : er = .nilIface := by rcases HPH.out with ⟨_, h, _⟩ | ⟨h, _⟩; exact h; cases h
                subst her
                go_wp2_with (go_at_call 49; refine (HADV.out _ HS.out).mono ?_; rintro e w1 ⟨rfl, hs1, hc1⟩; obtain ⟨⟨y0, y1, y2, y3, y4, y5, y6, y7, y8, y9, y10⟩, fz⟩ := hs1.cells; have f3 := fz 3; have f8 := fz 8; (try unfold Eo at y7); have HF := Aside0.mk (HFIN.out w1 hs1 hc1); clear hs1 hc1 fz HS HADV HFIN)
                go_ret
                exact HF.out
              | true =>
                have her : er = Eo ea := by rcases HPH.out with ⟨h, _⟩ | ⟨_, h, _⟩; cases h; exact h
                subst her
                have hp1 := hpos rfl
                have hp2 := hpos2 rfl
                clear hpos hpos2
                go_wp2_with (go_at_call 49; refine (HADV.out _ HS.out).mono ?_; rintro e w1 ⟨rfl, hs1, hc1⟩; obtain ⟨⟨y0, y1, y2, y3, y4, y5, y6, y7, y8, y9, y10⟩, fz⟩ := hs1.cells; have f3 := fz 3; have f8 := fz 8; (try unfold Eo at y7); have HF := Aside0.mk (HFIN.out w1 hs1 hc1); clear hs1 hc1 fz HS HADV HFIN)
                go_ret
                exact HF.out
          
      case rest =>
        as_aux_lemma =>
        clear HB HP HR HM HB33
        obtain ⟨ph', d', tok', HB, HP, HQ⟩ := hcut
        have hneq0 := nilNeq
        have hneq1 := fun W => eofNeq W ea
        rcases HP.out with ⟨e, gt, M, c, called, h1, h2, h3, h4, h5, h6, h7, h8⟩ | ⟨e, gb, st, en, emp, called, h1, h2, ⟨T, cT, h3⟩, h4, h5, h6, h7, h8⟩ | ⟨e, gb, st, en, emp, called, h1, h2, ⟨T, cT, h3⟩, h4, h5, h6, h7, h8⟩
        · subst e
          as_aux_lemma =>
          have hq : goA sp d' = R ∧ phM wr g = 2 := by
            rcases HQ.out with ⟨_, h⟩ | ⟨e, _⟩ | ⟨e, _⟩
            · exact h
            · cases e
            · cases e
          have HQ1 := Aside0.mk hq
          have HD := Aside0.mk (And.intro h3 h8)
          have HS := Aside0.mk h1
          have HW := Aside0.mk h4
          have HPC := Aside0.mk h2
          have HGB := Aside0.mk (And.intro h5 (And.intro h6 h7))
          obtain ⟨⟨c0, c1, c2, c3, c4, c5, c6, c7, c8, c9, c10⟩, fz⟩ := h1.cells
          clear hq h1 h2 h3 h4 h5 h6 h7 h8 fz HQ HP
          have HN : Aside0 (∀ n, Aside0 (Bl w0 Wi g gp Q (wc.drewN n)) ∧ Aside0 (Sc (wc.drewN n) g gp F tok' (.slice none 0 0) .nilIface 0 0 0 called) ∧ Aside0 (Win (wc.drewN n) gt M 0 d') ∧ Aside0 (Pc (wc.drewN n) gp (.slice (some ⟨gt, 0, none⟩) d'.size c))) := ⟨fun n => ⟨⟨HB.out.drewN n⟩, ⟨HS.out.chg ((Chg.refl [] wc).drewN n) (by simp)⟩, ⟨HW.out.chg ((Chg.refl [] wc).drewN n) (by simp)⟩, ⟨HPC.out.chg ((Chg.refl [] wc).drewN n) (by simp)⟩⟩⟩
          clear HB HS HW HPC
          go_upto_region 27 with fail
          go_quiet (fail)
          go_wp2_with fail
          obtain ⟨HB, HS, HW, HPC⟩ := HN.out nq
          clear HN c0 c1 c2 c3 c4 c5 c6 c7 c8 c9 c10
          generalize wc.drewN nq = wq at *
          obtain ⟨⟨c0, c1, c2, c3, c4, c5, c6, c7, c8, c9, c10⟩, fz⟩ := HS.out.cells
          have HN : Aside0 (∀ n, Aside0 (Bl w0 Wi g gp Q (wq.drewN n)) ∧ Aside0 (Sc (wq.drewN n) g gp F tok' (.slice none 0 0) .nilIface 0 0 0 called) ∧ Aside0 (Win (wq.drewN n) gt M 0 d') ∧ Aside0 (Pc (wq.drewN n) gp (.slice (some ⟨gt, 0, none⟩) d'.size c))) := ⟨fun n => ⟨⟨HB.out.drewN n⟩, ⟨HS.out.chg ((Chg.refl [] wq).drewN n) (by simp)⟩, ⟨HW.out.chg ((Chg.refl [] wq).drewN n) (by simp)⟩, ⟨HPC.out.chg ((Chg.refl [] wq).drewN n) (by simp)⟩⟩⟩
          clear HB HS HW HPC fz
          go_quiet (fail)
          go_wp2_with fail
          obtain ⟨HB, HS, HW, HPC⟩ := HN.out nq
          clear HN c0 c1 c2 c3 c4 c5 c6 c7 c8 c9 c10
          generalize wq.drewN nq = wp at *
          obtain ⟨⟨c0, c1, c2, c3, c4, c5, c6, c7, c8, c9, c10⟩, fz⟩ := HS.out.cells
          have HN : Aside0 (∀ n, Aside0 (Bl w0 Wi g gp Q (wp.drewN n)) ∧ Aside0 (Sc (wp.drewN n) g gp F tok' (.slice none 0 0) .nilIface 0 0 0 called) ∧ Aside0 (Win (wp.drewN n) gt M 0 d') ∧ Aside0 (Pc (wp.drewN n) gp (.slice (some ⟨gt, 0, none⟩) d'.size c))) := ⟨fun n => ⟨⟨HB.out.drewN n⟩, ⟨HS.out.chg ((Chg.refl [] wp).drewN n) (by simp)⟩, ⟨HW.out.chg ((Chg.refl [] wp).drewN n) (by simp)⟩, ⟨HPC.out.chg ((Chg.refl [] wp).drewN n) (by simp)⟩⟩⟩
          clear HB HS HW HPC fz
          go_quiet (fail)
          obtain ⟨HB, HS, HW, HPC⟩ := HN.out nq
          clear HN c0 c1 c2 c3 c4 c5 c6 c7 c8 c9 c10
          generalize wp.drewN nq = wm at *
          obtain ⟨⟨c0, c1, c2, c3, c4, c5, c6, c7, c8, c9, c10⟩, fz⟩ := HS.out.cells
          clear fz
          have HMK : Aside0 (∀ w3, w3 = wm.alloc (.cells (madeCells (Value.int .u8 0).cells (4096 * 1)) 5) → Chg [] wm w3 ∧ Row4 w3 wm.heap.size) := ⟨fun w3 e => by subst e; exact ⟨(Chg.refl [] wm).alloc _, _, heap_alloc_new _ _, by simp [madeCells, Value.cells]⟩⟩
          have HCP : Aside0 (∀ (W : World) (a : Addr), (Builtin.copy_ #[46, 46] 3 #[.slice (some a) 4096 4096, .slice none 0 0]).run Tryd.prog W = .ok (.int .i64 0) W) := ⟨fun W a => by
            simp [storeCells, Builtin.copy_, run_underlying Tryd.underlying46, Builtin.lenOf, Builtin.firstCells, goInt]⟩
          go_wp2_with (at_make; refine wpList_make rfl _ _ _ rfl 5 (.int .u8 0) 1 1 Tryd.underlying46 (by kernel_rfl) .i64 .i64 4096 4096 rfl rfl (by omega) (by omega) (by omega) (by omega) ?_; intro w3 e3; obtain ⟨hc3, hr3⟩ := HMK.out w3 e3; have HR4 := Aside0.mk hr3; have HC3 := Aside0.mk hc3; have HS3 := Aside0.mk (HS.out.chg hc3 (by simp)); clear hc3 hr3 e3 HMK; obtain ⟨⟨y0, y1, y2, y3, y4, y5, y6, y7, y8, y9, y10⟩, fz⟩ := HS3.out.cells; clear fz)
          have hcp := HCP.out
          clear HCP c0 c1 c2 c3 c4 c5 c6 c7 c8 c9 c10
          go_still_tail 14, (by kernel_rfl)
          change wpList _ _ _ _ _ w3.drew
          clear y0 y1 y2 y3 y4 y5 y6 y7 y8 y9 y10
          have HC4 : Aside0 (Chg [] wm w3.drew) := ⟨HC3.out.drew⟩
          have HS4 := Aside0.mk (HS3.out.chg ((Chg.refl [] w3).drew) (by simp))
          have HR5 : Aside0 (Row4 w3.drew wm.heap.size) := ⟨HR4.out⟩
          clear HC3 HS3 HR4
          generalize w3.drew = w4 at *
          obtain ⟨⟨y0, y1, y2, y3, y4, y5, y6, y7, y8, y9, y10⟩, fz⟩ := HS4.out.cells
          have f4 := fz 4
          clear fz
          go_wp2_with fail
          have hgl : g < wm.heap.size := HS.out.lt
          have HS5 := Aside0.mk (HS4.out.putBuf (.slice (some ⟨wm.heap.size, 0, none⟩) 4096 4096))
          have HC5 : Aside0 (Chg [g] wm (w4.setCell ⟨g, 4, none⟩ (.slice (some ⟨wm.heap.size, 0, none⟩) 4096 4096))) := ⟨(HC4.out.mono (by simp)).setCell (.inl (by simp)) _⟩
          have HR6 : Aside0 (Row4 (w4.setCell ⟨g, 4, none⟩ (.slice (some ⟨wm.heap.size, 0, none⟩) 4096 4096)) wm.heap.size) := ⟨by
            obtain ⟨cur, q1, q2⟩ := HR5.out
            exact ⟨cur, (Below.heap_setCell w4 _ _ _ (by show wm.heap.size ≠ g; omega)).trans q1, q2⟩⟩
          clear HS4 HC4 HR5 y0 y1 y2 y3 y4 y5 y6 y7 y8 y9 y10 f4
          generalize w4.setCell ⟨g, 4, none⟩ (.slice (some ⟨wm.heap.size, 0, none⟩) 4096 4096) = w5 at *
          obtain ⟨⟨y0, y1, y2, y3, y4, y5, y6, y7, y8, y9, y10⟩, fz⟩ := HS5.out.cells
          clear fz
          go_still_tail 11, (by kernel_rfl)
          change wpList _ _ _ _ _ w5.drew
          clear y0 y1 y2 y3 y4 y5 y6 y7 y8 y9 y10
          have HS6 := Aside0.mk (HS5.out.chg ((Chg.refl [] w5).drew) (by simp))
          have HC6 : Aside0 (Chg [g] wm w5.drew) := ⟨HC5.out.drew⟩
          have HR7 : Aside0 (Row4 w5.drew wm.heap.size) := ⟨HR6.out⟩
          clear HS5 HC5 HR6
          generalize w5.drew = w6 at *
          obtain ⟨⟨y0, y1, y2, y3, y4, y5, y6, y7, y8, y9, y10⟩, fz⟩ := HS6.out.cells
          have f5 := fz 5
          have f6 := fz 6
          clear fz
          go_wp2_with fail
          have HST : Aside0 (∃ wq, wq = (w6.setCell ⟨g, 6, none⟩ (.int .i64 0)).setCell ⟨g, 5, none⟩ (.int .i64 0) ∧ Bl w0 Wi g gp Q wq ∧ Sc wq g gp F tok' (.slice (some ⟨wm.heap.size, 0, none⟩) 4096 4096) .nilIface 0 0 0 called ∧ Row4 wq wm.heap.size ∧ Win wq gt M 0 d' ∧ Pc wq gp (.slice (some ⟨gt, 0, none⟩) d'.size c)) := ⟨by
            have hg := HG.out
            have hgb := HGB.out
            have hcc : Chg [g] wm ((w6.setCell ⟨g, 6, none⟩ (.int .i64 0)).setCell ⟨g, 5, none⟩ (.int .i64 0)) := (HC6.out.setCell (.inl (by simp)) _).setCell (.inl (by simp)) _
            obtain ⟨cur, q1, q2⟩ := HR7.out
            refine ⟨_, rfl, HB.out.step hcc (fun i hi => .inl (by simpa using hi)), (HS6.out.putEn 0).putSt 0, ⟨cur, ?_, q2⟩, HW.out.chg hcc (by simpa using hgb.2.1), HPC.out.chg hcc (by simp; exact Ne.symm hg.2.2)⟩
            rw [Below.heap_setCell _ _ _ _ (by show wm.heap.size ≠ g; omega), Below.heap_setCell _ _ _ _ (by show wm.heap.size ≠ g; omega)]
            exact q1⟩
          obtain ⟨wq, hwq, hBq, hSq, hRq, hWq, hPq⟩ := HST.out
          rw [← hwq]
          have hgm : w0.heap.size ≤ wm.heap.size := HB.out.below.size
          have hok : Okb w0 Wi Q wm.heap.size := ⟨hgm, .inr HB.out.size⟩
          have hgpl : gp < wm.heap.size := HPC.out.lt
          have hgtl : gt < wm.heap.size := HW.out.lt
          obtain ⟨gb, hgb⟩ : ∃ gb, gb = wm.heap.size := ⟨_, rfl⟩
          rw [← hgb] at hgm hgpl hgtl hgl hSq hRq hok
          have HOK := Aside0.mk hok
          have HBQ := Aside0.mk hBq
          have HSQ := Aside0.mk hSq
          have HRQ := Aside0.mk hRq
          have HWQ := Aside0.mk hWq
          have HPQ := Aside0.mk hPq
          have HNB := Aside0.mk (And.intro hgm (And.intro hgpl (And.intro hgtl hgl)))
          clear HST hwq hBq hSq hRq hWq hPq HS6 HC6 HR7 y0 y1 y2 y3 y4 y5 y6 y7 y8 y9 y10 f5 f6 HB HS HW HPC hgb hgm hgpl hgtl hgl hok
          by_cases hz : d'.size = 0
          · have HZ := Aside0.mk hz
            have HRD : Aside0 (∀ W' b, Chg [] wq W' → Calls Tryd.prog 70 #[.pointer (some ⟨gp, 0, none⟩), b] W' fun e W'' => e = .returned (.tuple #[.int .i64 0, .iface 106 (.pointer (some ea))]) ∧ Chg [] W' W'') := ⟨fun W' b hc => read_eof (T := some ⟨gt, 0, none⟩) (c := c) (by have := HPQ.out.chg hc (by simp); rwa [HZ.out] at this) ((HE.out.below HBQ.out.below).chg hc (by simp)) b⟩
            have HW2 : Aside0 (Win wq gb 4096 0 d') := ⟨by
              obtain ⟨cur, q1, q2⟩ := HRQ.out
              exact ⟨cur, (0, 0), q1, q2, by omega, .inl (Nat.le_refl _), fun j hj => by omega⟩⟩
            have HP2 : Aside0 (∃ T cT, Pc wq gp (.slice T 0 cT)) := ⟨_, _, by have := HPQ.out; rwa [HZ.out] at this⟩
            have HQC : Aside0 (goC sp d' = R) := ⟨by have := HQ1.out.1; rw [goA, if_pos HZ.out] at this; exact this⟩
            clear hz HRQ HWQ HPQ
            as_aux_lemma =>
            go_loopw [8] (fun v8 wz => v8 = .int .i64 0 ∧ wz = wq) (fun _ _ => 0)
            case atStart => exact ⟨rfl, rfl⟩
            case round =>
              obtain ⟨rfl, rfl⟩ := hrel
              obtain ⟨⟨c0, c1, c2, c3, c4, c5, c6, c7, c8, c9, c10⟩, fz⟩ := HSQ.out.cells
              have hinv := invRead
              clear fz
              go_upto_region 45 with fail
              go_cut [9, 10] (fun v9 v10 wx => v9 = .int .i64 0 ∧ v10 = .iface 106 (.pointer (some ea)) ∧ Aside0 (Chg [] wr wx))
              case first =>
                as_aux_lemma =>
                have HKEEP : Aside0 (∀ W' W'', Chg [] wr W' → Chg [] W' W'' → (W''.cell? ⟨g, 0, none⟩ = some (.iface 65 (.pointer (some ⟨gp, 0, none⟩))) ∧ W''.cell? ⟨g, 4, none⟩ = some (.slice (some ⟨gb, 0, none⟩) 4096 4096) ∧ W''.cell? ⟨g, 6, none⟩ = some (.int .i64 (0 : Nat))) ∧ Chg [] wr W'') := ⟨fun W' W'' h1 h2 => by
                  obtain ⟨⟨q0, q1, q2, q3, q4, q5, q6, q7, q8, q9, q10⟩, fz⟩ := (HSQ.out.chg (h1.trans h2) (by simp)).cells
                  exact ⟨⟨q0, q4, q6⟩, h1.trans h2⟩⟩
                go_region_held3 (fun w' => w'.cell? ⟨g, 0, none⟩ = some (.iface 65 (.pointer (some ⟨gp, 0, none⟩))) ∧ w'.cell? ⟨g, 4, none⟩ = some (.slice (some ⟨gb, 0, none⟩) 4096 4096) ∧ w'.cell? ⟨g, 6, none⟩ = some (.int .i64 (0 : Nat))) (first | exact ⟨c0, c4, c6⟩ | exact HKS.out) ((go_at_call 70; refine (HRD.out _ _ (by repeat (first | exact Chg.refl _ _ | refine Chg.drew ?_ | refine Chg.drewN ?_ _))).mono ?_; rintro e wy ⟨rfl, hc⟩; have HKP := Aside0.mk (HKEEP.out _ _ (by repeat (first | exact Chg.refl _ _ | refine Chg.drew ?_ | refine Chg.drewN ?_ _)) hc); have HKS := Aside0.mk HKP.out.1; have HKK := Aside0.mk HKP.out.2; clear hc HKP HKEEP))
                all_goals go_wp2_with fail
                all_goals go_meet
                all_goals exact ⟨rfl, rfl, ⟨by repeat (first | exact HKK.out | exact Chg.refl _ _ | refine Chg.drew ?_ | refine Chg.drewN ?_ _)⟩⟩
              case rest =>
                as_aux_lemma =>
                clear c0 c1 c2 c3 c4 c5 c6 c7 c8 c9 c10 hinv HRD
                obtain ⟨rfl, rfl, HC⟩ := hcut
                have HB3 : Aside0 (Bl w0 Wi g gp Q wc) := ⟨HBQ.out.step HC.out (by simp)⟩
                have HS3 := Aside0.mk (HSQ.out.chg HC.out (by simp))
                have HW3 := Aside0.mk (HW2.out.chg HC.out (by simp))
                have HP3 : Aside0 (∃ T cT, Pc wc gp (.slice T 0 cT)) := ⟨by obtain ⟨T, cT, h⟩ := HP2.out; exact ⟨T, cT, h.chg HC.out (by simp)⟩⟩
                clear HBQ HSQ HW2 HP2 HC
                have HN : Aside0 (∀ n, Aside0 (Bl w0 Wi g gp Q (wc.drewN n)) ∧ Aside0 (Sc (wc.drewN n) g gp F tok' (.slice (some ⟨gb, 0, none⟩) 4096 4096) .nilIface 0 0 0 called) ∧ Aside0 (Win (wc.drewN n) gb 4096 0 d') ∧ Aside0 (∃ T cT, Pc (wc.drewN n) gp (.slice T 0 cT))) := ⟨fun n => ⟨⟨HB3.out.drewN n⟩, ⟨HS3.out.chg ((Chg.refl [] wc).drewN n) (by simp)⟩, ⟨HW3.out.chg ((Chg.refl [] wc).drewN n) (by simp)⟩, ⟨by obtain ⟨T, cT, h⟩ := HP3.out; exact ⟨T, cT, h.chg ((Chg.refl [] wc).drewN n) (by simp)⟩⟩⟩⟩
                obtain ⟨⟨c0, c1, c2, c3, c4, c5, c6, c7, c8, c9, c10⟩, fz⟩ := HS3.out.cells
                clear fz HB3 HS3 HW3 HP3
                go_upto_region 46 with fail
                go_quiet (fail)
                obtain ⟨HB4, HS4, HW4, HP4⟩ := HN.out nq
                clear HN c0 c1 c2 c3 c4 c5 c6 c7 c8 c9 c10
                generalize wc.drewN nq = wv at *
                obtain ⟨⟨c0, c1, c2, c3, c4, c5, c6, c7, c8, c9, c10⟩, fz⟩ := HS4.out.cells
                have f6 := fz 6
                have e0 := nilNeq
                have e1 := fun W => eofNeq W ea
                have HSE := Aside0.mk (setErr_calls (HS4.out.putEn 0) ea)
                have HFIN : Aside0 (∀ w1, Sc w1 g gp F tok' (.slice (some ⟨gb, 0, none⟩) 4096 4096) (Eo ea) 0 0 0 called → Chg [g] (wv.setCell ⟨g, 6, none⟩ (.int .i64 (0 : Nat))) w1 → Bl w0 Wi g gp Q w1 ∧ PhS w1 g gp F tok' (Okb w0 Wi Q) ea 2 d') := ⟨fun w1 hs hc => by
                  have hg := HG.out
                  have hnb := HNB.out
                  have hcc : Chg [g] wv w1 := ((Chg.refl [g] wv).setCell (.inl (by simp)) _).trans hc
                  obtain ⟨T, cT, hp⟩ := HP4.out
                  exact ⟨HB4.out.step hcc (fun i hi => .inl (by simpa using hi)), .inr (.inr ⟨rfl, gb, 0, 0, 0, called, hs, HW4.out.chg hcc (by simp; omega), ⟨T, cT, hp.chg hcc (by simp; exact Ne.symm hg.2.2)⟩, by omega, by omega, HOK.out, by rw [HZ.out], by omega⟩)⟩⟩
                clear fz HB4 HS4 HW4 HP4
                go_wp2_with (go_at_call 48; refine HSE.out.mono ?_; rintro e w1 ⟨rfl, hs1, hc1⟩; obtain ⟨hb1, hp1⟩ := HFIN.out w1 hs1 hc1; have HBF := Aside0.mk hb1; have HPF := Aside0.mk hp1; have HMF := Aside0.mk hp1.m; clear hb1 hp1 hs1 hc1 HSE HFIN)
                go_roundw
                case rel => exact ⟨2, d', tok', HBF, HPF, ⟨HQC.out⟩⟩
                case measure =>
                  have h1 := HQ1.out.2
                  have h2 := HMF.out
                  omega
          · have HN0 : Aside0 (0 < d'.size ∧ d'.size ≤ 1000) := ⟨by have := HD.out.2; omega⟩
            have HRD : Aside0 (∀ W', Chg [] wq W' → Calls Tryd.prog 70 #[.pointer (some ⟨gp, 0, none⟩), .slice (some ⟨gb, 0, none⟩) 4096 4096] W' fun e W'' => e = .returned (.tuple #[.int .i64 d'.size, .nilIface]) ∧ Chg [gb, gp] W' W'' ∧ Win W'' gb 4096 0 d' ∧ ∃ T c', Pc W'' gp (.slice T 0 c')) := ⟨fun W' hc => read_first (HPQ.out.chg hc (by simp)) (HWQ.out.chg hc (by simp)) HD.out.1 HN0.out.1 HN0.out.2 (by obtain ⟨cur, q1, q2⟩ := HRQ.out; exact ⟨cur, (hc.block gb (Array.getElem?_eq_some_iff.1 q1).1 (by simp)).trans q1, q2⟩) (by have := HNB.out; omega) HGB.out.1⟩
            have HQB : Aside0 (goB sp d' = R) := ⟨by have := HQ1.out.1; rw [goA, if_neg hz] at this; exact this⟩
            clear hz HRQ HWQ HPQ
            as_aux_lemma =>
            go_loopw [8] (fun v8 wz => v8 = .int .i64 0 ∧ wz = wq) (fun _ _ => 0)
            case atStart => exact ⟨rfl, rfl⟩
            case round =>
              obtain ⟨rfl, rfl⟩ := hrel
              obtain ⟨⟨c0, c1, c2, c3, c4, c5, c6, c7, c8, c9, c10⟩, fz⟩ := HSQ.out.cells
              have hinv := invRead
              clear fz
              go_upto_region 45 with fail
              go_cut [9, 10] (fun v9 v10 wx => v9 = .int .i64 d'.size ∧ v10 = .nilIface ∧ Aside0 (Chg [gb, gp] wr wx) ∧ Aside0 (Win wx gb 4096 0 d') ∧ Aside0 (∃ T c', Pc wx gp (.slice T 0 c')))
              case first =>
                as_aux_lemma =>
                have HKEEP : Aside0 (∀ W' W'', Chg [] wr W' → Chg [gb, gp] W' W'' → (W''.cell? ⟨g, 0, none⟩ = some (.iface 65 (.pointer (some ⟨gp, 0, none⟩))) ∧ W''.cell? ⟨g, 4, none⟩ = some (.slice (some ⟨gb, 0, none⟩) 4096 4096) ∧ W''.cell? ⟨g, 6, none⟩ = some (.int .i64 (0 : Nat))) ∧ Chg [gb, gp] wr W'') := ⟨fun W' W'' h1 h2 => by
                  have hnb := HNB.out
                  have hg := HG.out
                  have hcc := (h1.mono (T := [gb, gp]) (by simp)).trans h2
                  obtain ⟨⟨q0, q1, q2, q3, q4, q5, q6, q7, q8, q9, q10⟩, fz⟩ := (HSQ.out.chg hcc (by simp; omega)).cells
                  exact ⟨⟨q0, q4, q6⟩, hcc⟩⟩
                go_region_held3 (fun w' => w'.cell? ⟨g, 0, none⟩ = some (.iface 65 (.pointer (some ⟨gp, 0, none⟩))) ∧ w'.cell? ⟨g, 4, none⟩ = some (.slice (some ⟨gb, 0, none⟩) 4096 4096) ∧ w'.cell? ⟨g, 6, none⟩ = some (.int .i64 (0 : Nat))) (first | exact ⟨c0, c4, c6⟩ | exact HKS.out) ((go_at_call 70; refine (HRD.out _ (by repeat (first | exact Chg.refl _ _ | refine Chg.drew ?_ | refine Chg.drewN ?_ _))).mono ?_; rintro e wy ⟨rfl, hc, hw, T, c', hp⟩; have HKP := Aside0.mk (HKEEP.out _ _ (by repeat (first | exact Chg.refl _ _ | refine Chg.drew ?_ | refine Chg.drewN ?_ _)) hc); have HKS := Aside0.mk HKP.out.1; have HFF : Aside0 (∀ W, Chg [] wy W → Chg [gb, gp] wr W ∧ Win W gb 4096 0 d' ∧ Pc W gp (.slice T 0 c')) := ⟨fun W hW => ⟨HKP.out.2.trans (hW.mono (by simp)), hw.chg hW (by simp), hp.chg hW (by simp)⟩⟩; clear hc hw hp HKP HKEEP))
                all_goals go_wp2_with fail
                all_goals go_meet
                all_goals (obtain ⟨q1, q2, q3⟩ := HFF.out _ (by repeat (first | exact Chg.refl _ _ | refine Chg.drew ?_ | refine Chg.drewN ?_ _)); exact ⟨rfl, rfl, ⟨q1⟩, ⟨q2⟩, ⟨_, _, q3⟩⟩)
              case rest =>
                as_aux_lemma =>
                clear c0 c1 c2 c3 c4 c5 c6 c7 c8 c9 c10 hinv HRD
                obtain ⟨rfl, rfl, HC, HW3, HP3⟩ := hcut
                have HB3 : Aside0 (Bl w0 Wi g gp Q wc) := ⟨HBQ.out.step HC.out (fun i hi => by simp at hi; rcases hi with rfl | rfl; exact .inr (.inr HOK.out); exact .inr (.inl rfl))⟩
                have HS3 := Aside0.mk (HSQ.out.chg HC.out (by have := HNB.out; have := HG.out; simp; omega))
                clear HBQ HSQ HC
                have HN : Aside0 (∀ n, Aside0 (Bl w0 Wi g gp Q (wc.drewN n)) ∧ Aside0 (Sc (wc.drewN n) g gp F tok' (.slice (some ⟨gb, 0, none⟩) 4096 4096) .nilIface 0 0 0 called) ∧ Aside0 (Win (wc.drewN n) gb 4096 0 d') ∧ Aside0 (∃ T cT, Pc (wc.drewN n) gp (.slice T 0 cT))) := ⟨fun n => ⟨⟨HB3.out.drewN n⟩, ⟨HS3.out.chg ((Chg.refl [] wc).drewN n) (by simp)⟩, ⟨HW3.out.chg ((Chg.refl [] wc).drewN n) (by simp)⟩, ⟨by obtain ⟨T, cT, h⟩ := HP3.out; exact ⟨T, cT, h.chg ((Chg.refl [] wc).drewN n) (by simp)⟩⟩⟩⟩
                obtain ⟨⟨c0, c1, c2, c3, c4, c5, c6, c7, c8, c9, c10⟩, fz⟩ := HS3.out.cells
                clear fz HB3 HS3 HW3 HP3
                obtain ⟨n, hn⟩ : ∃ n, n = d'.size := ⟨_, rfl⟩
                have HNN : Aside0 (n = d'.size ∧ 0 < n ∧ n ≤ 1000) := ⟨by have := HN0.out; omega⟩
                rw [← hn]
                clear hn
                have k1 : ¬ (4096 : Int) < (n : Int) := by have := HNN.out; omega
                have k2 : ¬ 4096 < n := by have := HNN.out; omega
                have k3 : IntKind.i64.wrap (n : Int) = (n : Int) := IntWalk.i64_in _ (by have := HNN.out; constructor <;> omega)
                have k4 : (0 : Int) < (n : Int) := by have := HNN.out; omega
                have k5 : 0 < n := HNN.out.2.1
                have k6 : ¬ (n : Int) < 0 := by omega
                go_upto_region 46 with fail
                go_quiet (fail)
                obtain ⟨HB4, HS4, HW4, HP4⟩ := HN.out nq
                clear HN c0 c1 c2 c3 c4 c5 c6 c7 c8 c9 c10
                generalize wc.drewN nq = wv at *
                obtain ⟨⟨c0, c1, c2, c3, c4, c5, c6, c7, c8, c9, c10⟩, fz⟩ := HS4.out.cells
                have f6 := fz 6
                have f8 := fz 8
                have e0 := nilNeq
                have HFIN : Aside0 (Bl w0 Wi g gp Q ((wv.setCell ⟨g, 6, none⟩ (.int .i64 (n : Nat))).setCell ⟨g, 8, none⟩ (.int .i64 0)) ∧ PhS ((wv.setCell ⟨g, 6, none⟩ (.int .i64 (n : Nat))).setCell ⟨g, 8, none⟩ (.int .i64 0)) g gp F tok' (Okb w0 Wi Q) ea 1 d') := ⟨by
                  have hg := HG.out
                  have hnb := HNB.out
                  have hnn := HNN.out
                  have hcc : Chg [g] wv ((wv.setCell ⟨g, 6, none⟩ (.int .i64 (n : Nat))).setCell ⟨g, 8, none⟩ (.int .i64 0)) := ((Chg.refl [g] wv).setCell (.inl (by simp)) _).setCell (.inl (by simp)) _
                  obtain ⟨T, cT, hp⟩ := HP4.out
                  exact ⟨HB4.out.step hcc (fun i hi => .inl (by simpa using hi)), .inr (.inl ⟨rfl, gb, 0, n, 0, called, (HS4.out.putEn n).putEmp, HW4.out.chg hcc (by simp; omega), ⟨T, cT, hp.chg hcc (by simp; exact Ne.symm hg.2.2)⟩, by omega, by omega, HOK.out, by omega, by omega⟩)⟩⟩
                clear fz HB4 HS4 HW4 HP4
                go_wp2_with fail
                go_roundw
                case rel => exact ⟨1, d', tok', ⟨HFIN.out.1⟩, ⟨HFIN.out.2⟩, ⟨HQB.out⟩⟩
                case measure =>
                  have h1 := HQ1.out.2
                  have h2 := HFIN.out.2.m
                  omega
        · subst e
          as_aux_lemma =>
          have hq : goC sp d' = R ∧ phM wr g = 1 := by
            rcases HQ.out with ⟨e, _⟩ | ⟨_, h⟩ | ⟨e, _⟩
            · cases e
            · exact h
            · cases e
          have HQ1 := Aside0.mk hq
          have HD : Aside0 (d'.size = en - st ∧ st ≤ en ∧ en ≤ 1000) := ⟨by omega⟩
          have HS := Aside0.mk h1
          have HW := Aside0.mk h2
          have HPC := Aside0.mk h3
          have HGB := Aside0.mk (And.intro h4 (And.intro h5 h6))
          obtain ⟨⟨c0, c1, c2, c3, c4, c5, c6, c7, c8, c9, c10⟩, fz⟩ := h1.cells
          clear hq h1 h2 h3 h4 h5 h6 h7 h8 fz HQ HP
          go_upto_region 27 with fail
          have HN : Aside0 (∀ n, Aside0 (Bl w0 Wi g gp Q (wc.drewN n)) ∧ Aside0 (Sc (wc.drewN n) g gp F tok' (.slice (some ⟨gb, 0, none⟩) 4096 4096) .nilIface st en emp called) ∧ Aside0 (Win (wc.drewN n) gb 4096 st d') ∧ Aside0 (Pc (wc.drewN n) gp (.slice T 0 cT))) := ⟨fun n => ⟨⟨HB.out.drewN n⟩, ⟨HS.out.chg ((Chg.refl [] wc).drewN n) (by simp)⟩, ⟨HW.out.chg ((Chg.refl [] wc).drewN n) (by simp)⟩, ⟨HPC.out.chg ((Chg.refl [] wc).drewN n) (by simp)⟩⟩⟩
          go_cut [153] (fun v153 wy => v153 = .bool false ∧ Aside0 (Bl w0 Wi g gp Q wy) ∧ Aside0 (Sc wy g gp F tok' (.slice (some ⟨gb, 0, none⟩) 4096 4096) .nilIface st en emp called) ∧ Aside0 (Win wy gb 4096 st d') ∧ Aside0 (Pc wy gp (.slice T 0 cT)))
          case first =>
            as_aux_lemma =>
            have hd := HD.out
            have k1 : ((en : Int) == 4096) = false := beq_eq_false_iff_ne.2 (by omega)
            have k2 : decide ((st : Int) > 2048) = false := decide_eq_false (by omega)
            have k3 : decide (st > 2048) = false := decide_eq_false (by omega)
            have k4 : (en == 4096) = false := beq_eq_false_iff_ne.2 (by omega)
            by_cases hst : 0 < st
            · have k5 : decide ((st : Int) > 0) = true := decide_eq_true (by omega)
              have k6 : decide (0 < st) = true := decide_eq_true hst
              clear hd hst
              go_quiet (fail)
              go_wp2_with fail
              go_meet
              exact ⟨rfl, HN.out _⟩
            · have k5 : decide ((st : Int) > 0) = false := decide_eq_false (by omega)
              have k6 : decide (0 < st) = false := decide_eq_false hst
              clear hd hst
              go_quiet (fail)
              go_wp2_with fail
              go_meet
              exact ⟨rfl, HN.out _⟩
          case rest =>
            as_aux_lemma =>
            clear c0 c1 c2 c3 c4 c5 c6 c7 c8 c9 c10 HB HS HW HPC HN
            obtain ⟨rfl, HB1, HS1, HW1, HP1⟩ := hcut
            obtain ⟨⟨c0, c1, c2, c3, c4, c5, c6, c7, c8, c9, c10⟩, fz⟩ := HS1.out.cells
            have k1 : ((en : Int) == 4096) = false := beq_eq_false_iff_ne.2 (by have := HD.out; omega)
            have k4 : (en == 4096) = false := beq_eq_false_iff_ne.2 (by have := HD.out; omega)
            clear fz
            have HN : Aside0 (∀ n, Aside0 (Bl w0 Wi g gp Q (wc.drewN n)) ∧ Aside0 (Sc (wc.drewN n) g gp F tok' (.slice (some ⟨gb, 0, none⟩) 4096 4096) .nilIface st en emp called) ∧ Aside0 (Win (wc.drewN n) gb 4096 st d') ∧ Aside0 (Pc (wc.drewN n) gp (.slice T 0 cT))) := ⟨fun n => ⟨⟨HB1.out.drewN n⟩, ⟨HS1.out.chg ((Chg.refl [] wc).drewN n) (by simp)⟩, ⟨HW1.out.chg ((Chg.refl [] wc).drewN n) (by simp)⟩, ⟨HP1.out.chg ((Chg.refl [] wc).drewN n) (by simp)⟩⟩⟩
            go_upto_region 31 with fail
            go_quiet (fail)
            go_wp2_with fail
            obtain ⟨HB2, HS2, HW2, HP2⟩ := HN.out nq
            clear HN HB1 HS1 HW1 HP1 c0 c1 c2 c3 c4 c5 c6 c7 c8 c9 c10
            generalize wc.drewN nq = wq at *
            have HRD : Aside0 (∀ W' b, Chg [] wq W' → Calls Tryd.prog 70 #[.pointer (some ⟨gp, 0, none⟩), b] W' fun e W'' => e = .returned (.tuple #[.int .i64 0, .iface 106 (.pointer (some ea))]) ∧ Chg [] W' W'') := ⟨fun W' b hc => read_eof (HP2.out.chg hc (by simp)) ((HE.out.below HB2.out.below).chg hc (by simp)) b⟩
            go_loopw [8] (fun v8 wz => v8 = .int .i64 0 ∧ wz = wq) (fun _ _ => 0)
            case atStart => exact ⟨rfl, rfl⟩
            case round =>
              obtain ⟨rfl, rfl⟩ := hrel
              obtain ⟨⟨c0, c1, c2, c3, c4, c5, c6, c7, c8, c9, c10⟩, fz⟩ := HS2.out.cells
              have hinv := invRead
              have p1 : ¬ 4096 = en := by have := HD.out; omega
              have p2 : en ≤ 4096 := by have := HD.out; omega
              have p3 : (en : Int) ≤ 4096 := by omega
              have p4 : (0 : Int) ≤ (en : Int) := by omega
              clear fz
              go_upto_region 45 with fail
              go_cut [9, 10] (fun v9 v10 wx => v9 = .int .i64 0 ∧ v10 = .iface 106 (.pointer (some ea)) ∧ Aside0 (Chg [] wr wx))
              case first =>
                as_aux_lemma =>
                have HKEEP : Aside0 (∀ W' W'', Chg [] wr W' → Chg [] W' W'' → (W''.cell? ⟨g, 0, none⟩ = some (.iface 65 (.pointer (some ⟨gp, 0, none⟩))) ∧ W''.cell? ⟨g, 4, none⟩ = some (.slice (some ⟨gb, 0, none⟩) 4096 4096) ∧ W''.cell? ⟨g, 6, none⟩ = some (.int .i64 en)) ∧ Chg [] wr W'') := ⟨fun W' W'' h1 h2 => by
                  obtain ⟨⟨q0, q1, q2, q3, q4, q5, q6, q7, q8, q9, q10⟩, fz⟩ := (HS2.out.chg (h1.trans h2) (by simp)).cells
                  exact ⟨⟨q0, q4, q6⟩, h1.trans h2⟩⟩
                go_region_held3 (fun w' => w'.cell? ⟨g, 0, none⟩ = some (.iface 65 (.pointer (some ⟨gp, 0, none⟩))) ∧ w'.cell? ⟨g, 4, none⟩ = some (.slice (some ⟨gb, 0, none⟩) 4096 4096) ∧ w'.cell? ⟨g, 6, none⟩ = some (.int .i64 en)) (first | exact ⟨c0, c4, c6⟩ | exact HKS.out) ((go_at_call 70; refine (HRD.out _ _ (by repeat (first | exact Chg.refl _ _ | refine Chg.drew ?_ | refine Chg.drewN ?_ _))).mono ?_; rintro e wy ⟨rfl, hc⟩; have HKP := Aside0.mk (HKEEP.out _ _ (by repeat (first | exact Chg.refl _ _ | refine Chg.drew ?_ | refine Chg.drewN ?_ _)) hc); have HKS := Aside0.mk HKP.out.1; have HKK := Aside0.mk HKP.out.2; clear hc HKP HKEEP))
                all_goals go_wp2_with fail
                all_goals go_meet
                all_goals exact ⟨rfl, rfl, ⟨by repeat (first | exact HKK.out | exact Chg.refl _ _ | refine Chg.drew ?_ | refine Chg.drewN ?_ _)⟩⟩
              case rest =>
                as_aux_lemma =>
                clear c0 c1 c2 c3 c4 c5 c6 c7 c8 c9 c10 hinv HRD
                obtain ⟨rfl, rfl, HC⟩ := hcut
                have HB3 : Aside0 (Bl w0 Wi g gp Q wc) := ⟨HB2.out.step HC.out (by simp)⟩
                have HS3 := Aside0.mk (HS2.out.chg HC.out (by simp))
                have HW3 := Aside0.mk (HW2.out.chg HC.out (by simp))
                have HP3 := Aside0.mk (HP2.out.chg HC.out (by simp))
                clear HB2 HS2 HW2 HP2 HC
                have HN : Aside0 (∀ n, Aside0 (Bl w0 Wi g gp Q (wc.drewN n)) ∧ Aside0 (Sc (wc.drewN n) g gp F tok' (.slice (some ⟨gb, 0, none⟩) 4096 4096) .nilIface st en emp called) ∧ Aside0 (Win (wc.drewN n) gb 4096 st d') ∧ Aside0 (Pc (wc.drewN n) gp (.slice T 0 cT))) := ⟨fun n => ⟨⟨HB3.out.drewN n⟩, ⟨HS3.out.chg ((Chg.refl [] wc).drewN n) (by simp)⟩, ⟨HW3.out.chg ((Chg.refl [] wc).drewN n) (by simp)⟩, ⟨HP3.out.chg ((Chg.refl [] wc).drewN n) (by simp)⟩⟩⟩
                obtain ⟨⟨c0, c1, c2, c3, c4, c5, c6, c7, c8, c9, c10⟩, fz⟩ := HS3.out.cells
                clear fz HB3 HS3 HW3 HP3
                have k1 : IntKind.i64.wrap ((4096 : Int) - (en : Int)) = (4096 : Int) - (en : Int) := IntWalk.i64_in _ (by constructor <;> omega)
                have k2 : decide ((4096 : Int) - (en : Int) < 0) = false := decide_eq_false (by omega)
                have k3 : IntKind.i64.wrap (en : Int) = (en : Int) := IntWalk.i64_in _ (by constructor <;> omega)
                have k4 : ¬ (4096 : Int) - (en : Int) < 0 := by omega
                go_upto_region 46 with fail
                go_quiet (fail)
                obtain ⟨HB4, HS4, HW4, HP4⟩ := HN.out nq
                clear HN c0 c1 c2 c3 c4 c5 c6 c7 c8 c9 c10
                generalize wc.drewN nq = wv at *
                obtain ⟨⟨c0, c1, c2, c3, c4, c5, c6, c7, c8, c9, c10⟩, fz⟩ := HS4.out.cells
                have f6 := fz 6
                have e0 := nilNeq
                have e1 := fun W => eofNeq W ea
                have HSE := Aside0.mk (setErr_calls (HS4.out.putEn en) ea)
                have HFIN : Aside0 (∀ w1, Sc w1 g gp F tok' (.slice (some ⟨gb, 0, none⟩) 4096 4096) (Eo ea) st en emp called → Chg [g] (wv.setCell ⟨g, 6, none⟩ (.int .i64 (en : Nat))) w1 → Bl w0 Wi g gp Q w1 ∧ PhS w1 g gp F tok' (Okb w0 Wi Q) ea 2 d') := ⟨fun w1 hs hc => by
                  have hg := HG.out
                  have hgb := HGB.out
                  have hd := HD.out
                  have hcc : Chg [g] wv w1 := ((Chg.refl [g] wv).setCell (.inl (by simp)) _).trans hc
                  exact ⟨HB4.out.step hcc (fun i hi => .inl (by simpa using hi)), .inr (.inr ⟨rfl, gb, st, en, emp, called, hs, HW4.out.chg hcc (by simpa using hgb.2.1), ⟨T, cT, HP4.out.chg hcc (by simp; exact Ne.symm hg.2.2)⟩, hgb.1, hgb.2.1, hgb.2.2, by omega, hd.2.2⟩)⟩⟩
                clear fz HB4 HS4 HW4 HP4
                go_wp2_with (go_at_call 48; refine HSE.out.mono ?_; rintro e w1 ⟨rfl, hs1, hc1⟩; obtain ⟨hb1, hp1⟩ := HFIN.out w1 hs1 hc1; have HBF := Aside0.mk hb1; have HPF := Aside0.mk hp1; have HMF := Aside0.mk hp1.m; clear hb1 hp1 hs1 hc1 HSE HFIN)
                go_roundw
                case rel => exact ⟨2, d', tok', HBF, HPF, ⟨HQ1.out.1⟩⟩
                case measure =>
                  have h1 := HQ1.out.2
                  have h2 := HMF.out
                  omega
        · subst e
          as_aux_lemma =>
          have hr : R = (none, 2, ByteArray.empty) := by
            rcases HQ.out with ⟨e, _⟩ | ⟨e, _⟩ | ⟨_, h⟩
            · cases e
            · cases e
            · exact h
          have HFIN : Aside0 (ScanTold w0 Wi g gp Q F ea R (.returned (.bool false)) ((wc.setCell ⟨g, 5, none⟩ (.int .i64 0)).setCell ⟨g, 6, none⟩ (.int .i64 0))) := ⟨by
            have hg := HG.out
            have hcc : Chg [g] wc ((wc.setCell ⟨g, 5, none⟩ (.int .i64 0)).setCell ⟨g, 6, none⟩ (.int .i64 0)) := ((Chg.refl [g] wc).setCell (.inl (by simp)) _).setCell (.inl (by simp)) _
            have hb2 := HB.out.step hcc (fun i hi => .inl (by simpa using hi))
            subst hr
            exact ⟨rfl, hb2, tok', .inr (.inr ⟨rfl, gb, 0, 0, emp, called, (h1.putSt 0).putEn 0, (h2.chg hcc (by simpa using h5)).nul, ⟨T, cT, h3.chg hcc (by simp; exact Ne.symm hg.2.2)⟩, h4, h5, h6, rfl, Nat.zero_le _⟩), fun t ht => by cases ht⟩⟩
          obtain ⟨⟨c0, c1, c2, c3, c4, c5, c6, c7, c8, c9, c10⟩, fz⟩ := h1.cells
          have f5 := fz 5
          have f6 := fz 6
          unfold Eo at c7
          clear h1 h2 h3 h4 h5 h6 h7 h8 fz hr HB HP HQ HSP HE
          go_wp2_with fail
          go_ret
          exact HFIN.out
        
end Go.Proofs.YtpjnebmcbeblkaaDoor.Sn
