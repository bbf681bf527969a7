/- impl.Sentence: the walk; its contract for the law's print. -/
import Derived.Test.YtpjnebmcbeblkaaDoorESnB
import Derived.Test.YtpjnebmcbeblkaaDoorESenS
import Derived.Laws.Cover3
set_option linter.unusedVariables false
namespace Go.Proofs.YtpjnebmcbeblkaaDoor.Sn
open Go.RowKit Go.Lib Go.Proofs.YtpjnebmcbeblkaaDoorW.PrintWords Go.Proofs.YtpjnebmcbeblkaaDoor.Gn Go.Proofs.YtpjnebmcbeblkaaDoor.X
theorem results_tmp4 {fn : Func} {t u v x : Tmp} (h : fn.results = #[.tmp t, .tmp u, .tmp v, .tmp x]) (tmps : Array Value) (P : Program) (w : World) :
    (results fn tmps).run P w = .ok (.tuple #[tmps.getD t undef, tmps.getD u undef, tmps.getD v undef, tmps.getD x undef]) w := by
  simp [results, h]
def tokOf (R : Out) : ByteArray := match R.tok with
  | none => ByteArray.empty
  | some (st, en) => cut R.data st en
set_option maxHeartbeats 2000000 in
set_option maxRecDepth 100000 in
theorem sentence_calls (w : World) (s a f : ByteArray) (sk ln : Bool) (mx : Int) (eof : Bool) (hT : Tabs w) (hs : s.size ≤ 1000) (ha : a.size ≤ 1000) (hf : f.size ≤ 1000) (R : Out) (hR : call (spOf a f sk ln mx) s eof = R) :
    Calls Tryd.prog 9 #[.string s, .agg #[.string a, .string f, .bool sk, .bool ln, .int .i64 mx], .bool eof] w fun e w' => e = .returned (.tuple #[.int .i64 R.adv, .string (tokOf R), .bool R.tok.isSome, .string R.data]) ∧ Below w.heap.size w w' := by
  have hbz := print_bytes (P := Tryd.prog) 9 46 5 Tryd.underlying9 Tryd.underlying46 Tryd.underlying5 s
  obtain ⟨w0, hw0⟩ : ∃ w0, w0 = w.alloc (.cells #[.string a, .string f, .bool sk, .bool ln, .int .i64 mx] 23 (0, 0)) := ⟨_, rfl⟩
  have hz0 : w0.heap.size = w.heap.size + 1 := by rw [hw0]; exact size_alloc _ _
  have hc0 : Chg [] w w0 := by rw [hw0]; exact (Chg.refl [] w).alloc _
  have hb0 : w0.heap[w.heap.size]? = some (.cells #[.string a, .string f, .bool sk, .bool ln, .int .i64 mx] 23 (0, 0)) := by rw [hw0]; exact heap_alloc_new _ _
  have hc1 : Chg [] w (Lib.bytesWorld w0 5 s) := hc0.trans (bytes_chg w0 s)
  have hz1 : (Lib.bytesWorld w0 5 s).heap.size = w.heap.size + 2 := by rw [Lib.bytesWorld_size, hz0]
  have hb1 : (Lib.bytesWorld w0 5 s).heap[w.heap.size]? = some (.cells #[.string a, .string f, .bool sk, .bool ln, .int .i64 mx] 23 (0, 0)) := by rw [Lib.bytesWorld_at_old w0 5 s _ (by omega)]; exact hb0
  have hw1 := bytes_Win w0 s
  obtain ⟨M, hM⟩ : ∃ M, M = (Lib.bytesCells w0 5 s).size := ⟨_, rfl⟩
  obtain ⟨cap, hcap⟩ : ∃ cap, cap = grownCap w0 s.size 0 5 := ⟨_, rfl⟩
  have hcs : s.size ≤ cap := by rw [hcap]; exact grownCap_ge _ _ _ _
  rw [← hM, hz0] at hw1
  obtain ⟨w1, hww1⟩ : ∃ w1, w1 = Lib.bytesWorld w0 5 s := ⟨_, rfl⟩
  rw [← hww1] at hc1 hz1 hb1 hw1
  have hsc : ∀ (w2 : World) (g0 g1 k0 k1 : Nat), Chg [] w1 w2 → w1.heap.size ≤ g0 → w1.heap.size ≤ g1 → Rd (spOf a f sk ln mx) (some ⟨g0, 0, none⟩) (some ⟨g1, 0, none⟩) k0 k1 w2 → Calls Tryd.prog 26 #[.agg #[.slice (some ⟨g0, 0, none⟩) (runes a).length k0, .slice (some ⟨g1, 0, none⟩) (runes f).length k1, .bool sk, .bool ln, .int .i64 mx], .slice (some ⟨w.heap.size + 1, 0, none⟩) s.size cap, .bool eof] w2 (Told w2 (w.heap.size + 1) M 0 cap s.size R) := by
    intro w2 g0 g1 k0 k1 h1 h2 h3 h4
    have := scan_calls w2 (w.heap.size + 1) M 0 cap s (some ⟨g0, 0, none⟩) (some ⟨g1, 0, none⟩) k0 k1 (spOf a f sk ln mx) eof (hw1.chg h1 (by simp)) (by omega) hcs (fun W hW => ⟨h4.chg hW (by simp; omega) (by simp; omega), hT.below (((hc1.trans h1).above hW (fun i hi => .inr (by simp at hi; omega))).toBelow (Nat.le_refl _) (by simp))⟩)
    rw [hR] at this
    exact this
  have hsp := splitter_calls w1 a f sk ln mx (by omega) (by omega)
  have ha1 : ∀ w3, Chg [w.heap.size + 1] w1 w3 → Below w.heap.size w w3 := fun w3 h3 => (hc1.above h3 (fun i hi => .inr (by simp at hi; omega))).toBelow (Nat.le_refl _) (by simp)
  have hld : (loadVar 23 ⟨w.heap.size, 0, none⟩).run Tryd.prog w1 = .ok (.agg #[.string a, .string f, .bool sk, .bool ln, .int .i64 mx]) w1 := run_loadVar_row w1 _ _ _ _ _ _ hb1 Tryd.underlying23 rfl (by kernel_rfl)
  have HSC := Aside0.mk hsc
  have HSP := Aside0.mk hsp
  have HA1 := Aside0.mk ha1
  have HW0 := Aside0.mk hw0
  have HWW1 := Aside0.mk hww1
  have HCAP := Aside0.mk hcap
  have HCS := Aside0.mk hcs
  have HZ0 := Aside0.mk hz0
  have cx : w1.cell? ⟨w.heap.size, 0, none⟩ = some (.string a) ∧ w1.cell? ⟨w.heap.size, 1, none⟩ = some (.string f) ∧ w1.cell? ⟨w.heap.size, 2, none⟩ = some (.bool sk) ∧ w1.cell? ⟨w.heap.size, 3, none⟩ = some (.bool ln) ∧ w1.cell? ⟨w.heap.size, 4, none⟩ = some (.int .i64 mx) := ⟨cell_of hb1 rfl, cell_of hb1 rfl, cell_of hb1 rfl, cell_of hb1 rfl, cell_of hb1 rfl⟩
  obtain ⟨cx0, cx1, cx2, cx3, cx4⟩ := cx
  clear hT hR hz0 hc0 hb0 hc1 hz1 hb1 hw1 hM hcap hcs hsc hsp ha1 hww1 hld
  rcases R with ⟨adv, tok, data⟩
  rw [hw0] at HWW1 HCAP HZ0
  have hbz1 : (convert 9 46 (.string s)).run Tryd.prog (w.alloc (.cells #[.string a, .string f, .bool sk, .bool ln, .int .i64 mx] 23 (0, 0))) = .ok (.slice (some ⟨w.heap.size + 1, 0, none⟩) s.size cap) w1 := by
    rw [hbz, ← HWW1.out, ← HCAP.out, HZ0.out]
  clear hbz hw0 HW0 HWW1 HCAP HZ0
  cases tok with
  | none =>
    go_enter Tryd.func9, Tryd.ntmps9
    go_wp2_with (first
      | (go_at_call 25; refine HSP.out.mono ?_; rintro e w2 ⟨g0, g1, k0, k1, rfl, hc2, hg0, hg1, hrd⟩; have HSD := Aside0.mk (HSC.out w2 g0 g1 k0 k1 hc2 hg0 hg1 hrd); have HC2 := Aside0.mk hc2; clear hc2 hg0 hg1 hrd HSC HSP)
      | (go_at_call 26; refine HSD.out.mono ?_; rintro e w3 ⟨tv, rfl, hw3, hz3, hc3, rfl⟩; have HA3 := Aside0.mk (HA1.out w3 ((HC2.out.mono (by simp)).trans hc3)); clear HSD HC2 HA1; simp only at hz3 hw3; have hd1 : ∀ n, (convert 46 9 (.slice none 0 0)).run Tryd.prog (w3.drewN n) = .ok (.string ByteArray.empty) (w3.drewN n) := fun n => nil_string Tryd.underlying46 Tryd.underlying5 Tryd.underlying9; have hd2 := fun n => Win.string (P := Tryd.prog) (c := cap) (w := w3.drewN n) (hw3.block rfl) (by omega) 0 data.size (Nat.zero_le _) (Nat.le_refl _) Tryd.underlying46 Tryd.underlying5 Tryd.underlying9 0 (.inr rfl); simp only [cut_all, Nat.sub_zero] at hd2; rw [hz3] at hd2; have hd3 : ∀ (A : Option Addr) (l c n : Nat), (binOp .neq 46 (.slice A l c) (.slice none 0 0)).run Tryd.prog (w3.drewN n) = .ok (.bool (!A.isNone)) (w3.drewN n) := fun A l c n => run_neq_slice_nil _ 46 5 A l c Tryd.underlying46; clear hw3 hz3 hc3))
    go_quiet (fail)
    go_wp2_with fail
    (try simp only [Exit.inBlock, Exit.then])
    refine bodyPost_ret (results_tmp4 rfl _ _ _) rfl ?_
    exact ⟨rfl, ((Chg.below HA3.out).drewN _).toBelow (Nat.le_refl _) (by simp)⟩
  | some t =>
    obtain ⟨st, en⟩ := t
    by_cases hcs : cap = st
    · have HCE := Aside0.mk hcs
      clear hcs
      as_aux_lemma =>
      go_enter Tryd.func9, Tryd.ntmps9
      go_wp2_with (first
        | (go_at_call 25; refine HSP.out.mono ?_; rintro e w2 ⟨g0, g1, k0, k1, rfl, hc2, hg0, hg1, hrd⟩; have HSD := Aside0.mk (HSC.out w2 g0 g1 k0 k1 hc2 hg0 hg1 hrd); have HC2 := Aside0.mk hc2; clear hc2 hg0 hg1 hrd HSC HSP)
        | (go_at_call 26; refine HSD.out.mono ?_; rintro e w3 ⟨tv, rfl, hw3, hz3, hc3, hse, hen, htv⟩; have HA3 := Aside0.mk (HA1.out w3 ((HC2.out.mono (by simp)).trans hc3)); clear HSD HC2 HA1; simp only at hz3 hw3 hen; unfold tokV at htv; rw [if_pos HCE.out] at htv; subst htv; have hd1 := fun n => Win.string (P := Tryd.prog) (c := cap - st) (w := w3.drewN n) (hw3.block rfl) (by omega) st en hse hen Tryd.underlying46 Tryd.underlying5 Tryd.underlying9 0 (.inl (by have := HCS.out; have := HCE.out; omega)); have hd2 := fun n => Win.string (P := Tryd.prog) (c := cap) (w := w3.drewN n) (hw3.block rfl) (by omega) 0 data.size (Nat.zero_le _) (Nat.le_refl _) Tryd.underlying46 Tryd.underlying5 Tryd.underlying9 0 (.inr rfl); simp only [cut_all, Nat.sub_zero] at hd2; rw [hz3] at hd2; have hd3 : ∀ (A : Option Addr) (l c n : Nat), (binOp .neq 46 (.slice A l c) (.slice none 0 0)).run Tryd.prog (w3.drewN n) = .ok (.bool (!A.isNone)) (w3.drewN n) := fun A l c n => run_neq_slice_nil _ 46 5 A l c Tryd.underlying46; clear hw3 hz3 hc3))
      go_quiet (fail)
      go_wp2_with fail
      (try simp only [Exit.inBlock, Exit.then])
      refine bodyPost_ret (results_tmp4 rfl _ _ _) rfl ?_
      exact ⟨rfl, ((Chg.below HA3.out).drewN _).toBelow (Nat.le_refl _) (by simp)⟩
    · have HCE := Aside0.mk hcs
      clear hcs
      as_aux_lemma =>
      go_enter Tryd.func9, Tryd.ntmps9
      go_wp2_with (first
        | (go_at_call 25; refine HSP.out.mono ?_; rintro e w2 ⟨g0, g1, k0, k1, rfl, hc2, hg0, hg1, hrd⟩; have HSD := Aside0.mk (HSC.out w2 g0 g1 k0 k1 hc2 hg0 hg1 hrd); have HC2 := Aside0.mk hc2; clear hc2 hg0 hg1 hrd HSC HSP)
        | (go_at_call 26; refine HSD.out.mono ?_; rintro e w3 ⟨tv, rfl, hw3, hz3, hc3, hse, hen, htv⟩; have HA3 := Aside0.mk (HA1.out w3 ((HC2.out.mono (by simp)).trans hc3)); clear HSD HC2 HA1; simp only at hz3 hw3 hen; unfold tokV at htv; rw [if_neg HCE.out, Nat.zero_add] at htv; subst htv; have hd1 := fun n => Win.string (P := Tryd.prog) (c := cap - st) (w := w3.drewN n) (hw3.block rfl) (by omega) st en hse hen Tryd.underlying46 Tryd.underlying5 Tryd.underlying9 st (.inr (by omega)); have hd2 := fun n => Win.string (P := Tryd.prog) (c := cap) (w := w3.drewN n) (hw3.block rfl) (by omega) 0 data.size (Nat.zero_le _) (Nat.le_refl _) Tryd.underlying46 Tryd.underlying5 Tryd.underlying9 0 (.inr rfl); simp only [cut_all, Nat.sub_zero] at hd2; rw [hz3] at hd2; have hd3 : ∀ (A : Option Addr) (l c n : Nat), (binOp .neq 46 (.slice A l c) (.slice none 0 0)).run Tryd.prog (w3.drewN n) = .ok (.bool (!A.isNone)) (w3.drewN n) := fun A l c n => run_neq_slice_nil _ 46 5 A l c Tryd.underlying46; clear hw3 hz3 hc3))
      go_quiet (fail)
      go_wp2_with fail
      (try simp only [Exit.inBlock, Exit.then])
      refine bodyPost_ret (results_tmp4 rfl _ _ _) rfl ?_
      exact ⟨rfl, ((Chg.below HA3.out).drewN _).toBelow (Nat.le_refl _) (by simp)⟩
end Go.Proofs.YtpjnebmcbeblkaaDoor.Sn
namespace Go.Proofs.YtpjnebmcbeblkaaDoor.P
open Go.RowKit Go.Proofs.YtpjnebmcbeblkaaDoor.Sn
def impl_Sentence.f (x0 f0 f1 : ByteArray) (f2 f3 : Bool) (f4 : Int) (x2 : Bool) : Option (Int × ByteArray × Bool × ByteArray) :=
  if x0.size ≤ 1000 ∧ f0.size ≤ 1000 ∧ f1.size ≤ 1000 then some (((call (spOf f0 f1 f2 f3 f4) x0 x2).adv : Int), tokOf (call (spOf f0 f1 f2 f3 f4) x0 x2), (call (spOf f0 f1 f2 f3 f4) x0 x2).tok.isSome, (call (spOf f0 f1 f2 f3 f4) x0 x2).data) else none
theorem impl_Sentence.calls (x0 f0 f1 : ByteArray) (f2 f3 : Bool) (f4 : Int) (x2 : Bool) (r0 : Int) (r1 : ByteArray) (r2 : Bool) (r3 : ByteArray) (w : World) (ht : Go.Proofs.YtpjnebmcbeblkaaDoor.X.Tabs w) (h : impl_Sentence.f x0 f0 f1 f2 f3 f4 x2 = some (r0, r1, r2, r3)) :
    Calls Tryd.prog 9 #[.string x0, .agg #[.string f0, .string f1, .bool f2, .bool f3, .int .i64 f4], .bool x2] w fun e w' => e = .returned (.tuple #[.int .i64 r0, .string r1, .bool r2, .string r3]) ∧ Below w.heap.size w w' := by
  unfold impl_Sentence.f at h
  split at h
  · rename_i hb
    injection h with h
    simp only [Prod.mk.injEq] at h
    obtain ⟨rfl, rfl, rfl, rfl⟩ := h
    exact sentence_calls w x0 f0 f1 f2 f3 f4 x2 ht hb.1 hb.2.1 hb.2.2 _ rfl
  · exact absurd h (by simp)
end Go.Proofs.YtpjnebmcbeblkaaDoor.P
