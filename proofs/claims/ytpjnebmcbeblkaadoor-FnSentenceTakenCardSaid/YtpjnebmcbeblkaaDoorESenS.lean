/- impl.splitter; '[]byte(s)', '[]rune(s)', 'string(b)' over windows. -/
import Derived.Test.YtpjnebmcbeblkaaDoorESnD
import Derived.Laws.IdiomStrings
set_option linter.unusedVariables false
namespace Go.Proofs.YtpjnebmcbeblkaaDoor.Sn
open Go.RowKit Go.Lib Go.Proofs.YtpjnebmcbeblkaaDoorW.PrintWords Go.Proofs.YtpjnebmcbeblkaaDoor.Gn Go.Proofs.YtpjnebmcbeblkaaDoor.X
/-- The code points of a text, from i on. -/
def runesL (s : ByteArray) : Nat → Nat → List Int
  | 0, _ => []
  | k + 1, i => if i < s.size then ((sg s i).1 : Int) :: runesL s k (i + (sg s i).2) else []
def runes (s : ByteArray) : List Int := runesL s s.size 0
theorem runesL_length (s : ByteArray) : ∀ k i, (runesL s k i).length ≤ k
  | 0, _ => Nat.le_refl _
  | k + 1, i => by
    rw [runesL]
    split
    · rw [List.length_cons]; have := runesL_length s k (i + (sg s i).2); omega
    · exact Nat.zero_le _
theorem runes_length (s : ByteArray) : (runes s).length ≤ s.size := runesL_length s _ _
theorem runesFrom_eq (s : ByteArray) : ∀ (k i : Nat) (acc : Array Value), Conv.runesFrom s k i acc = acc ++ ((runesL s k i).map (Value.int .i32)).toArray
  | 0, _, acc => by simp [Conv.runesFrom, runesL]
  | k + 1, i, acc => by
    rw [Conv.runesFrom, runesL]
    by_cases h : i < s.size
    · rw [if_pos h, if_pos h]
      simp only
      rw [runesFrom_eq s k, sg_dec s i h]
      simp
    · rw [if_neg h, if_neg h]; simp
/-- '[]rune(s)'. -/
theorem wpList_runes {P : Program} {w : World} {ops : Array Oper} {rest : List Oper} {o : Oper} {a : Act} {Q : Exit → Act → World → Prop} (hg : o.guard = none) (x : Operand) (src dst e : TypeId) (ho : o.op = .convert src dst x) (s : ByteArray) (hx : a.eval x = .string s)
    (hs : P.underlying src = some .string) (hd : P.underlying dst = some (.slice e)) (he : P.underlying e = some (.int .i32)) (hz : s.size ≤ 1000000)
    (hK : ∀ w' cap, Chg [] w w' → w'.heap.size = w.heap.size + 1 → Kd.C (Kd.int .i32) w' (some ⟨w.heap.size, 0, none⟩) (runes s).length (runes s) → (runes s).length ≤ cap → wpList P ops Q rest (a.put o.dst (.slice (some ⟨w.heap.size, 0, none⟩) (runes s).length cap)) w') :
    wpList P ops Q (o :: rest) a w := by
  refine wpList_plain hg fun K hK' => ?_
  have hl := runes_length s
  have hrf : Conv.runesFrom s s.size 0 #[] = ((runes s).map (Value.int .i32)).toArray := by rw [runesFrom_eq]; simp [runes]
  have hrz : (Conv.runesFrom s s.size 0 #[]).size = (runes s).length := by rw [hrf]; simp
  have hr := run_runes_of_string (P := P) w src dst e s hs hd he (by rw [hrz]; omega)
  rw [hrz, hrf] at hr
  obtain ⟨W2, hW2⟩ : ∃ W2, W2 = (w.drew.alloc (.cells (((runes s).map (Value.int .i32)).toArray ++ Array.replicate (grownCap w (runes s).length 0 e - (runes s).length) (.int .i32 0)) e)) := ⟨_, rfl⟩
  rw [← hW2] at hr
  unfold Oper.wp
  simp [execOp, ho, hx, hr, Result.andThen]
  refine hK' _ _ (hK _ _ (by rw [hW2]; exact ((Chg.refl [] w).drew).alloc _) (by rw [hW2]; exact size_alloc _ _) (Kd.C_of_reads (d := 0) (h1 := fun _ => rfl) ⟨rfl, by omega, fun _ => ⟨_, rfl, fun j hj => ?_⟩⟩) (grownCap_ge _ _ _ _))
  have e1 : (Addr.add ⟨w.heap.size, 0, none⟩ j) = ⟨w.heap.size, j, none⟩ := by unfold Addr.add; split <;> simp_all
  rw [e1, hW2]
  show (w.drew.alloc _).cell? ⟨w.drew.heap.size, j, none⟩ = _
  rw [World.cell?_alloc_mark]
  rw [Array.getElem?_append_left (by simpa using hj)]
  simp [hj]
/-- A window of bytes that '[]byte(s)' has made. -/
theorem bytes_Win (w : World) (s : ByteArray) : Win (Lib.bytesWorld w 5 s) w.heap.size (Lib.bytesCells w 5 s).size 0 s := by
  have h1 := Lib.bytesWorld_at_new w 5 s
  refine ⟨_, _, h1, rfl, ?_, .inr (Nat.le_refl _), fun j hj => ?_⟩
  · unfold Lib.bytesCells
    simp only [Array.size_append, Array.size_map]
    show 0 + s.data.size ≤ _
    omega
  · have h2 := Lib.bytesWorld_cell w 5 s j hj
    have h3 : j < s.data.toList.length := by rw [Array.length_toList]; exact hj
    unfold World.cell? at h2
    rw [h1] at h2
    rw [Nat.zero_add, byt_eq s j hj]
    simpa [List.getD_eq_getElem?_getD, List.getElem?_eq_getElem h3] using h2
theorem bytes_chg (w : World) (s : ByteArray) : Chg [] w (Lib.bytesWorld w 5 s) := ⟨rfl, rfl, rfl, by rw [Lib.bytesWorld_size]; omega, fun i hi _ => Lib.bytesWorld_at_old w 5 s i hi⟩
/-- The bytes from st to en. -/
def cut (s : ByteArray) (st en : Nat) : ByteArray := s.extract st en
theorem cut_size (s : ByteArray) (st en : Nat) (h : en ≤ s.size) : (cut s st en).size = en - st := by unfold cut; rw [ByteArray.size_extract]; omega
theorem cut_get (s : ByteArray) (st en j : Nat) (h : en ≤ s.size) (hj : j < en - st) : (cut s st en).get! j = s.get! (st + j) := by
  have h1 : j < (s.data.extract st en).size := by rw [Array.size_extract]; have : s.data.size = s.size := rfl; omega
  have h2 : st + j < s.data.size := by have : s.data.size = s.size := rfl; omega
  show (s.extract st en).data[j]! = s.data[st + j]!
  rw [ByteArray.data_extract, getElem!_pos _ j h1, getElem!_pos _ (st + j) h2, Array.getElem_extract]
theorem byt_cut (s : ByteArray) (st en j : Nat) (h : en ≤ s.size) (hj : j < en - st) : byt (cut s st en) j = byt s (st + j) := by
  unfold byt
  rw [cut_get s st en j h hj]
theorem str_ints (s : ByteArray) : strOfNums ((List.range s.size).map (byt s)) = s := by
  unfold strOfNums
  cases s with
  | mk a =>
    congr 1
    apply Array.ext
    · simp; rfl
    · intro i h1 h2
      simp only [List.getElem_toArray, List.getElem_map, List.getElem_range]
      rw [byt_eq ⟨a⟩ i h2]
      simp
/-- string(b[st:en]). -/
theorem Win.string {P : Program} {w : World} {b M off c : Nat} {s : ByteArray} (h : Win w b M off s) (hp : s.size ≤ 1000000) (st en : Nat) (hse : st ≤ en) (hen : en ≤ s.size) {src dst e : TypeId} (hs : P.underlying src = some (.slice e)) (he : P.underlying e = some (.int .u8)) (hd : P.underlying dst = some .string) (o : Nat) (ho : en = st ∨ o = off + st) :
    (convert src dst (.slice (some ⟨b, o, none⟩) (en - st) c)).run P w = .ok (.string (cut s st en)) w := by
  have hz := cut_size s st en hen
  have hr : ReadsInt w .u8 (some ⟨b, o, none⟩) (en - st) ((List.range (cut s st en).size).map (byt (cut s st en))) := by
    refine ⟨by simp [hz], by omega, fun _ => ⟨_, rfl, fun j hj => ?_⟩⟩
    rcases ho with ho | ho
    · omega
    subst ho
    have := h.cell (st + j) (by omega)
    have e1 : (Addr.add ⟨b, off + st, none⟩ j) = ⟨b, off + (st + j), none⟩ := by unfold Addr.add; split <;> simp_all <;> omega
    rw [e1, this, ← byt_cut s st en j hen hj]
    simp [hz, hj]
  have := string_of_reads (P := P) (src := src) (dst := dst) (e := e) (c := c) hs he hd hr
  rw [str_ints] at this
  exact this
theorem nil_string {P : Program} {w : World} {src dst e : TypeId} (hs : P.underlying src = some (.slice e)) (he : P.underlying e = some (.int .u8)) (hd : P.underlying dst = some .string) : (convert src dst (.slice none 0 0)).run P w = .ok (.string ByteArray.empty) w := run_convert_bytes_nil w src e hs he 0 0 dst hd
theorem cut_all (s : ByteArray) : cut s 0 s.size = s := ByteArray.extract_zero_size
theorem add0 (g j : Nat) : (Addr.add ⟨g, 0, none⟩ j) = ⟨g, j, none⟩ := by unfold Addr.add; split <;> simp_all
theorem Kint_chg {S : List Nat} {w w' : World} {k : IntKind} {g n : Nat} {xs : List Int} (h : Kd.C (Kd.int k) w (some ⟨g, 0, none⟩) n xs) (hc : Chg S w w') (hg : g ∉ S) : Kd.C (Kd.int k) w' (some ⟨g, 0, none⟩) n xs := by
  have hr := Kd.reads_of_C (enc := Value.int k) (d := (0 : Int)) (h1 := fun _ => rfl) h
  refine Kd.C_of_reads (d := 0) (h1 := fun _ => rfl) ⟨hr.1, hr.2.1, fun hn => ?_⟩
  obtain ⟨ad, e, hcell⟩ := hr.2.2 hn
  injection e with e
  subst e
  refine ⟨_, rfl, fun j hj => ?_⟩
  have := hcell j hj
  rw [add0] at this ⊢
  exact (World.cell?_of_block (w := w) (hc.block g (World.block_lt_of_cell? w _ this) hg)).trans this
/-- The struct that a splitter is made to. -/
def spOf (a f : ByteArray) (sk ln : Bool) (mx : Int) : Sp := ⟨runes a, runes f, sk, ln, mx⟩
theorem Rd.chg {S : List Nat} {o : Sp} {g0 g1 c0 c1 : Nat} {w w' : World} (h : Rd o (some ⟨g0, 0, none⟩) (some ⟨g1, 0, none⟩) c0 c1 w) (hc : Chg S w w') (h0 : g0 ∉ S) (h1 : g1 ∉ S) : Rd o (some ⟨g0, 0, none⟩) (some ⟨g1, 0, none⟩) c0 c1 w' :=
  ⟨Kint_chg h.r0 hc h0, h.h0, h.l0, Kint_chg h.r1 hc h1, h.h1, h.l1⟩
theorem cell_of {w : World} {g i : Nat} {cs : Array Value} {t : TypeId} {fz : Nat × Nat} {v : Value} (h : w.heap[g]? = some (.cells cs t fz)) (hv : cs[i]? = some v) : w.cell? ⟨g, i, none⟩ = some v := by simp [World.cell?, h, hv]
theorem frz_of {w : World} {g : Nat} {cs : Array Value} {t : TypeId} (h : w.heap[g]? = some (.cells cs t (0, 0))) (i : Nat) : w.frozen? ⟨g, i, none⟩ = false := by simp [World.frozen?, h]
set_option maxHeartbeats 2000000 in
set_option maxRecDepth 100000 in
theorem splitter_calls (w : World) (a f : ByteArray) (sk ln : Bool) (mx : Int) (ha : a.size ≤ 1000000) (hf : f.size ≤ 1000000) :
    Calls Tryd.prog 25 #[.agg #[.string a, .string f, .bool sk, .bool ln, .int .i64 mx]] w fun e w' => ∃ g0 g1 c0 c1, e = .returned (.agg #[.slice (some ⟨g0, 0, none⟩) (runes a).length c0, .slice (some ⟨g1, 0, none⟩) (runes f).length c1, .bool sk, .bool ln, .int .i64 mx]) ∧ Chg [] w w' ∧ w.heap.size ≤ g0 ∧ w.heap.size ≤ g1 ∧ Rd (spOf a f sk ln mx) (some ⟨g0, 0, none⟩) (some ⟨g1, 0, none⟩) c0 c1 w' := by
  have hla := runes_length a
  have hlf := runes_length f
  have HL := Aside0.mk (And.intro hla hlf)
  clear hla hlf
  obtain ⟨w0, hw0⟩ : ∃ w0, w0 = (w.alloc (.cells #[.string a, .string f, .bool sk, .bool ln, .int .i64 mx] 23 (0, 0))).alloc (.cells #[.slice none 0 0, .slice none 0 0, .bool false, .bool false, .int .i64 0] 52 (0, 0)) := ⟨_, rfl⟩
  have hz0 : w0.heap.size = w.heap.size + 2 := by rw [hw0, size_alloc, size_alloc]
  have hc0 : Chg [] w w0 := by rw [hw0]; exact ((Chg.refl [] w).alloc _).alloc _
  have hb0 : w0.heap[w.heap.size]? = some (.cells #[.string a, .string f, .bool sk, .bool ln, .int .i64 mx] 23 (0, 0)) := by
    rw [hw0, Below.heap_alloc _ _ _ (by rw [size_alloc]; omega)]
    exact heap_alloc_new _ _
  have hr0 : w0.heap[w.heap.size + 1]? = some (.cells #[.slice none 0 0, .slice none 0 0, .bool false, .bool false, .int .i64 0] 52 (0, 0)) := by
    have := heap_alloc_new (w.alloc (.cells #[.string a, .string f, .bool sk, .bool ln, .int .i64 mx] 23 (0, 0))) (.cells #[.slice none 0 0, .slice none 0 0, .bool false, .bool false, .int .i64 0] 52 (0, 0))
    rw [size_alloc] at this
    rw [hw0]
    exact this
  have HZ0 := Aside0.mk hz0
  have HC0 := Aside0.mk hc0
  have HB0 := Aside0.mk hb0
  have HR0 := Aside0.mk hr0
  have HW0 := Aside0.mk hw0
  clear hz0 hc0 hb0 hr0 hw0
  go_enter Tryd.func25, Tryd.ntmps25
  go_wp2_with (first
    | (refine wpList_runes rfl _ _ _ _ rfl a rfl Tryd.underlying9 Tryd.underlying50 Tryd.underlying21 (by omega) ?_; rw [← HW0.out, HZ0.out]; intro w1 c1 hc1 hs1 hb1 hcap1; have HC1 := Aside0.mk hc1; have HS1 := Aside0.mk hs1; have HB1 := Aside0.mk hb1; have HP1 := Aside0.mk hcap1; have bx1 := (hc1.block w.heap.size (by have := HZ0.out; omega) (by simp)).trans HB0.out; have br1 := (hc1.block (w.heap.size + 1) (by have := HZ0.out; omega) (by simp)).trans HR0.out; have BR1 := Aside0.mk br1; have BX1 := Aside0.mk bx1; clear hc1 hs1 hb1 hcap1 br1; have cx1 : w1.cell? ⟨w.heap.size, 1, none⟩ = some (.string f) := by simp [World.cell?, bx1])
    | (refine wpList_runes rfl _ _ _ _ rfl f rfl Tryd.underlying9 Tryd.underlying50 Tryd.underlying21 (by omega) ?_; intro w2 c2 hc2 hs2 hb2 hcap2; have HC2 := Aside0.mk hc2; have HS2 := Aside0.mk hs2; have HB2 := Aside0.mk hb2; have HP2 := Aside0.mk hcap2; have bx2 := (hc2.block w.heap.size (by have := HZ0.out; have := HS1.out; omega) (by simp)).trans BX1.out; have br2 := (hc2.block (w.heap.size + 1) (by have := HZ0.out; have := HS1.out; omega) (by simp)).trans BR1.out; have dx2 : w2.cell? ⟨w.heap.size, 2, none⟩ = some (.bool sk) := cell_of bx2 rfl; have dx3 : w2.cell? ⟨w.heap.size, 3, none⟩ = some (.bool ln) := cell_of bx2 rfl; have dx4 : w2.cell? ⟨w.heap.size, 4, none⟩ = some (.int .i64 mx) := cell_of bx2 rfl; have rx0 : w2.cell? ⟨w.heap.size + 1, 0, none⟩ = some (.slice none 0 0) := cell_of br2 rfl; have fx0 : w2.frozen? ⟨w.heap.size + 1, 0, none⟩ = false := frz_of br2 _; have rx1 : w2.cell? ⟨w.heap.size + 1, 1, none⟩ = some (.slice none 0 0) := cell_of br2 rfl; have fx1 : w2.frozen? ⟨w.heap.size + 1, 1, none⟩ = false := frz_of br2 _; have rx2 : w2.cell? ⟨w.heap.size + 1, 2, none⟩ = some (.bool false) := cell_of br2 rfl; have fx2 : w2.frozen? ⟨w.heap.size + 1, 2, none⟩ = false := frz_of br2 _; have rx3 : w2.cell? ⟨w.heap.size + 1, 3, none⟩ = some (.bool false) := cell_of br2 rfl; have fx3 : w2.frozen? ⟨w.heap.size + 1, 3, none⟩ = false := frz_of br2 _; have rx4 : w2.cell? ⟨w.heap.size + 1, 4, none⟩ = some (.int .i64 0) := cell_of br2 rfl; have fx4 : w2.frozen? ⟨w.heap.size + 1, 4, none⟩ = false := frz_of br2 _; have BR2 := Aside0.mk br2; clear bx2 br2 hc2 hs2 hb2 hcap2))
  have HH : ∀ v0 v1 v2 v3 v4, (((((w2.setCell ⟨w.heap.size + 1, 0, none⟩ v0).setCell ⟨w.heap.size + 1, 1, none⟩ v1).setCell ⟨w.heap.size + 1, 2, none⟩ v2).setCell ⟨w.heap.size + 1, 3, none⟩ v3).setCell ⟨w.heap.size + 1, 4, none⟩ v4).heap[w.heap.size + 1]? = some (.cells #[v0, v1, v2, v3, v4] 52 (0, 0)) := fun v0 v1 v2 v3 v4 => by
    have e0 := heap_put w2 ⟨w.heap.size + 1, 0, none⟩ _ _ _ v0 BR2.out rfl
    have e1 := heap_put _ ⟨w.heap.size + 1, 1, none⟩ _ _ _ v1 e0 rfl
    have e2 := heap_put _ ⟨w.heap.size + 1, 2, none⟩ _ _ _ v2 e1 rfl
    have e3 := heap_put _ ⟨w.heap.size + 1, 3, none⟩ _ _ _ v3 e2 rfl
    have e4 := heap_put _ ⟨w.heap.size + 1, 4, none⟩ _ _ _ v4 e3 rfl
    exact e4
  have HCC : ∀ v0 v1 v2 v3 v4, Chg [w.heap.size + 1] w2 (((((w2.setCell ⟨w.heap.size + 1, 0, none⟩ v0).setCell ⟨w.heap.size + 1, 1, none⟩ v1).setCell ⟨w.heap.size + 1, 2, none⟩ v2).setCell ⟨w.heap.size + 1, 3, none⟩ v3).setCell ⟨w.heap.size + 1, 4, none⟩ v4) := fun v0 v1 v2 v3 v4 => by
    repeat (first | exact Chg.refl _ _ | refine Chg.setCell ?_ (.inl (by simp)) _)
  (try simp only [Exit.inBlock, Exit.then])
  refine bodyPost_ret (results_cell_row rfl _ _ (w.heap.size + 1) 52 _ (0, 0) _ rfl (HH _ _ _ _ _) Tryd.underlying52 rfl (by kernel_rfl)) rfl ?_
  have hz1 := HS1.out
  have hz2 := HS2.out
  have hz0 := HZ0.out
  refine ⟨w.heap.size + 2, w1.heap.size, c1, c2, rfl, ((HC0.out.trans HC1.out).trans HC2.out).above (HCC _ _ _ _ _) (fun i hi => .inr (by simp at hi; omega)), by omega, by omega, Kint_chg (Kint_chg HB1.out HC2.out (by simp)) (HCC _ _ _ _ _) (by simp), HP1.out, by have := HL.out.1; show (runes a).length ≤ _; omega, Kint_chg HB2.out (HCC _ _ _ _ _) (by simp; omega), HP2.out, by have := HL.out.2; show (runes f).length ≤ _; omega⟩
end Go.Proofs.YtpjnebmcbeblkaaDoor.Sn
