/- isDelim, isFollower: what they tell. impl.splitter; '[]byte(s)', '[]rune(s)', 'string(b)' over windows. A Scanner that reads a short text, plain: what its calls tell. A Scanner's small calls. io.EOF out of the laid list. The ten laid variables of the four laws over a Scanner: the tables, io.EOF. -/
import Derived.Test.YtpjnebmcbeblkaaDoorQSa
import Derived.Test.YtpjnebmcbeblkaaDoorXEv
import Derived.Test.YtpjnebmcbeblkaaDoorP35
import Derived.Test.YtpjnebmcbeblkaaDoorP36
import Derived.Laws.IdiomStrings
import Derived.LaidEql
import Derived.WideLaws
import Derived.StillTailTactics
import Derived.BigQuiet
import Derived.LaidLaws
import Derived.FnData
set_option linter.unusedVariables false
namespace Go.Proofs.YtpjnebmcbeblkaaDoor.Sn
open Go.RowKit Go.Lib Go.Proofs.YtpjnebmcbeblkaaDoorW.PrintWords Go.Proofs.YtpjnebmcbeblkaaDoor.Gn Go.Proofs.YtpjnebmcbeblkaaDoor.X Go.Proofs.YtpjnebmcbeblkaaDoor.P Go.Proofs.YtpjnebmcbeblkaaDoor.X
theorem delim_l0 (r : Int) (l : List Int) (hl : l.length ≤ 9223372036854775806) : ∀ (d i : Nat), i + d = l.length → filter_SentenceSplitter_isDelim.l0 (d + 1) r l (l.length : Int) (i : Int) = some ((l.drop i).any (· == r)) := by
  intro d
  induction d with
  | zero =>
    intro i hi
    rw [List.drop_of_length_le (by omega)]
    simp only [filter_SentenceSplitter_isDelim.l0]
    rw [if_neg (by omega)]
    rfl
  | succ d ih =>
    intro i hi
    have hlt : i < l.length := by omega
    rw [filter_SentenceSplitter_isDelim.l0, if_pos (by omega), if_pos (by omega), if_pos (by omega), rd_nat _ _ hlt, List.drop_eq_getElem_cons hlt, List.any_cons]
    by_cases e : r = l[i]
    · rw [if_pos e]; simp [e]
    · rw [if_neg e, wr1 (by omega) (by omega)]
      have := ih (i + 1) (by omega)
      rw [Int.natCast_add] at this
      rw [show ((i : Int) + 1) = (i : Int) + ((1 : Nat) : Int) from rfl, this]
      have : (l[i] == r) = false := beq_eq_false_iff_ne.2 (fun g => e g.symm)
      rw [this, Bool.false_or]
theorem follow_l0 (r : Int) (l : List Int) (hl : l.length ≤ 9223372036854775806) : ∀ (d i : Nat), i + d = l.length → filter_SentenceSplitter_isFollower.l0 (d + 1) r l (l.length : Int) (i : Int) = some ((l.drop i).any (· == r)) := by
  intro d
  induction d with
  | zero =>
    intro i hi
    rw [List.drop_of_length_le (by omega)]
    simp only [filter_SentenceSplitter_isFollower.l0]
    rw [if_neg (by omega)]
    rfl
  | succ d ih =>
    intro i hi
    have hlt : i < l.length := by omega
    rw [filter_SentenceSplitter_isFollower.l0, if_pos (by omega), if_pos (by omega), if_pos (by omega), rd_nat _ _ hlt, List.drop_eq_getElem_cons hlt, List.any_cons]
    by_cases e : r = l[i]
    · rw [if_pos e]; simp [e]
    · rw [if_neg e, wr1 (by omega) (by omega)]
      have := ih (i + 1) (by omega)
      rw [Int.natCast_add] at this
      rw [show ((i : Int) + 1) = (i : Int) + ((1 : Nat) : Int) from rfl, this]
      have : (l[i] == r) = false := beq_eq_false_iff_ne.2 (fun g => e g.symm)
      rw [this, Bool.false_or]
/-- The struct's value. -/
def spV (o : Sp) (A0 A1 : Option Addr) (c0 c1 : Nat) : Value := .agg #[.slice A0 o.ends.length c0, .slice A1 o.fol.length c1, .bool o.skip, .bool o.lines, .int .i64 o.max]
/-- Its two rows can be read. -/
structure Rd (o : Sp) (A0 A1 : Option Addr) (c0 c1 : Nat) (W : World) : Prop where
  r0 : Kd.C (Kd.int .i32) W A0 o.ends.length o.ends
  h0 : o.ends.length ≤ c0
  l0 : o.ends.length ≤ 1000000000
  r1 : Kd.C (Kd.int .i32) W A1 o.fol.length o.fol
  h1 : o.fol.length ≤ c1
  l1 : o.fol.length ≤ 1000000000
theorem delim_calls {o : Sp} {A0 A1 : Option Addr} {c0 c1 : Nat} {W : World} (h : Rd o A0 A1 c0 c1 W) (r : Int) :
    Calls Tryd.prog 35 #[.agg #[.slice A0 o.ends.length c0, .slice A1 o.fol.length c1, .bool o.skip, .bool o.lines, .int .i64 o.max], .int .i32 r] W fun e w' => e = .returned (.bool (isD o r)) ∧ Chg [] W w' :=
  (filter_SentenceSplitter_isDelim.calls (o.ends.length + 1) A0 c0 o.ends A1 c1 o.fol o.skip o.lines o.max r (isD o r) W h.r0 h.h0 h.r1 h.h1 (by
    unfold filter_SentenceSplitter_isDelim.f
    exact delim_l0 r o.ends (by have := h.l0; omega) o.ends.length 0 (by omega))).mono fun e w' ⟨h1, h2⟩ => ⟨h1, Chg.below h2⟩
theorem follow_calls {o : Sp} {A0 A1 : Option Addr} {c0 c1 : Nat} {W : World} (h : Rd o A0 A1 c0 c1 W) (r : Int) :
    Calls Tryd.prog 36 #[.agg #[.slice A0 o.ends.length c0, .slice A1 o.fol.length c1, .bool o.skip, .bool o.lines, .int .i64 o.max], .int .i32 r] W fun e w' => e = .returned (.bool (isF o r)) ∧ Chg [] W w' :=
  (filter_SentenceSplitter_isFollower.calls (o.fol.length + 1) A0 c0 o.ends A1 c1 o.fol o.skip o.lines o.max r (isF o r) W h.r0 h.h0 h.r1 h.h1 (by
    unfold filter_SentenceSplitter_isFollower.f
    exact follow_l0 r o.fol (by have := h.l1; omega) o.fol.length 0 (by omega))).mono fun e w' ⟨h1, h2⟩ => ⟨h1, Chg.below h2⟩
end Go.Proofs.YtpjnebmcbeblkaaDoor.Sn
namespace Go.Proofs.YtpjnebmcbeblkaaDoor.Sn
open Go.RowKit Go.Lib Go.Proofs.YtpjnebmcbeblkaaDoorW.PrintWords Go.Proofs.YtpjnebmcbeblkaaDoor.Gn Go.Proofs.YtpjnebmcbeblkaaDoor.X
/-- The code points of a text, from i on. -/
def runesL (s : ByteArray) : Nat → Nat → List Int
  | 0, _ => []
  | k + 1, i => if i < s.size then ((sg s i).1 : Int) :: runesL s k (i + (sg s i).2) else []
def runes (s : ByteArray) : List Int := runesL s s.size 0
theorem runesL_length (s : ByteArray) : ∀ k i, (runesL s k i).length ≤ k
  | 0, _ => Nat.le_refl _
  | k + 1, i => by
    rw [runesL]
    split
    · rw [List.length_cons]; have := runesL_length s k (i + (sg s i).2); omega
    · exact Nat.zero_le _
theorem runes_length (s : ByteArray) : (runes s).length ≤ s.size := runesL_length s _ _
theorem runesFrom_eq (s : ByteArray) : ∀ (k i : Nat) (acc : Array Value), Conv.runesFrom s k i acc = acc ++ ((runesL s k i).map (Value.int .i32)).toArray
  | 0, _, acc => by simp [Conv.runesFrom, runesL]
  | k + 1, i, acc => by
    rw [Conv.runesFrom, runesL]
    by_cases h : i < s.size
    · rw [if_pos h, if_pos h]
      simp only
      rw [runesFrom_eq s k, sg_dec s i h]
      simp
    · rw [if_neg h, if_neg h]; simp
/-- '[]rune(s)'. -/
theorem wpList_runes {P : Program} {w : World} {ops : Array Oper} {rest : List Oper} {o : Oper} {a : Act} {Q : Exit → Act → World → Prop} (hg : o.guard = none) (x : Operand) (src dst e : TypeId) (ho : o.op = .convert src dst x) (s : ByteArray) (hx : a.eval x = .string s)
    (hs : P.underlying src = some .string) (hd : P.underlying dst = some (.slice e)) (he : P.underlying e = some (.int .i32)) (hz : s.size ≤ 1000000)
    (hK : ∀ w' cap, Chg [] w w' → w'.heap.size = w.heap.size + 1 → Kd.C (Kd.int .i32) w' (some ⟨w.heap.size, 0, none⟩) (runes s).length (runes s) → (runes s).length ≤ cap → wpList P ops Q rest (a.put o.dst (.slice (some ⟨w.heap.size, 0, none⟩) (runes s).length cap)) w') :
    wpList P ops Q (o :: rest) a w := by
  refine wpList_plain hg fun K hK' => ?_
  have hl := runes_length s
  have hrf : Conv.runesFrom s s.size 0 #[] = ((runes s).map (Value.int .i32)).toArray := by rw [runesFrom_eq]; simp [runes]
  have hrz : (Conv.runesFrom s s.size 0 #[]).size = (runes s).length := by rw [hrf]; simp
  have hr := run_runes_of_string (P := P) w src dst e s hs hd he (by rw [hrz]; omega)
  rw [hrz, hrf] at hr
  obtain ⟨W2, hW2⟩ : ∃ W2, W2 = (w.drew.alloc (.cells (((runes s).map (Value.int .i32)).toArray ++ Array.replicate (grownCap w (runes s).length 0 e - (runes s).length) (.int .i32 0)) e)) := ⟨_, rfl⟩
  rw [← hW2] at hr
  unfold Oper.wp
  simp [execOp, ho, hx, hr, Result.andThen]
  refine hK' _ _ (hK _ _ (by rw [hW2]; exact ((Chg.refl [] w).drew).alloc _) (by rw [hW2]; exact size_alloc _ _) (Kd.C_of_reads (d := 0) (h1 := fun _ => rfl) ⟨rfl, by omega, fun _ => ⟨_, rfl, fun j hj => ?_⟩⟩) (grownCap_ge _ _ _ _))
  have e1 : (Addr.add ⟨w.heap.size, 0, none⟩ j) = ⟨w.heap.size, j, none⟩ := by unfold Addr.add; split <;> simp_all
  rw [e1, hW2]
  show (w.drew.alloc _).cell? ⟨w.drew.heap.size, j, none⟩ = _
  rw [World.cell?_alloc_mark]
  rw [Array.getElem?_append_left (by simpa using hj)]
  simp [hj]
/-- A window of bytes that '[]byte(s)' has made. -/
theorem bytes_Win (w : World) (s : ByteArray) : Win (Lib.bytesWorld w 5 s) w.heap.size (Lib.bytesCells w 5 s).size 0 s := by
  have h1 := Lib.bytesWorld_at_new w 5 s
  refine ⟨_, _, h1, rfl, ?_, .inr (Nat.le_refl _), fun j hj => ?_⟩
  · unfold Lib.bytesCells
    simp only [Array.size_append, Array.size_map]
    show 0 + s.data.size ≤ _
    omega
  · have h2 := Lib.bytesWorld_cell w 5 s j hj
    have h3 : j < s.data.toList.length := by rw [Array.length_toList]; exact hj
    unfold World.cell? at h2
    rw [h1] at h2
    rw [Nat.zero_add, byt_eq s j hj]
    simpa [List.getD_eq_getElem?_getD, List.getElem?_eq_getElem h3] using h2
theorem bytes_chg (w : World) (s : ByteArray) : Chg [] w (Lib.bytesWorld w 5 s) := ⟨rfl, rfl, rfl, by rw [Lib.bytesWorld_size]; omega, fun i hi _ => Lib.bytesWorld_at_old w 5 s i hi⟩
/-- The bytes from st to en. -/
def cut (s : ByteArray) (st en : Nat) : ByteArray := s.extract st en
theorem cut_size (s : ByteArray) (st en : Nat) (h : en ≤ s.size) : (cut s st en).size = en - st := by unfold cut; rw [ByteArray.size_extract]; omega
theorem cut_get (s : ByteArray) (st en j : Nat) (h : en ≤ s.size) (hj : j < en - st) : (cut s st en).get! j = s.get! (st + j) := by
  have h1 : j < (s.data.extract st en).size := by rw [Array.size_extract]; have : s.data.size = s.size := rfl; omega
  have h2 : st + j < s.data.size := by have : s.data.size = s.size := rfl; omega
  show (s.extract st en).data[j]! = s.data[st + j]!
  rw [ByteArray.data_extract, getElem!_pos _ j h1, getElem!_pos _ (st + j) h2, Array.getElem_extract]
theorem byt_cut (s : ByteArray) (st en j : Nat) (h : en ≤ s.size) (hj : j < en - st) : byt (cut s st en) j = byt s (st + j) := by
  unfold byt
  rw [cut_get s st en j h hj]
theorem str_ints (s : ByteArray) : strOfNums ((List.range s.size).map (byt s)) = s := by
  unfold strOfNums
  cases s with
  | mk a =>
    congr 1
    apply Array.ext
    · simp; rfl
    · intro i h1 h2
      simp only [List.getElem_toArray, List.getElem_map, List.getElem_range]
      rw [byt_eq ⟨a⟩ i h2]
      simp
/-- string(b[st:en]). -/
theorem Win.string {P : Program} {w : World} {b M off c : Nat} {s : ByteArray} (h : Win w b M off s) (hp : s.size ≤ 1000000) (st en : Nat) (hse : st ≤ en) (hen : en ≤ s.size) {src dst e : TypeId} (hs : P.underlying src = some (.slice e)) (he : P.underlying e = some (.int .u8)) (hd : P.underlying dst = some .string) (o : Nat) (ho : en = st ∨ o = off + st) :
    (convert src dst (.slice (some ⟨b, o, none⟩) (en - st) c)).run P w = .ok (.string (cut s st en)) w := by
  have hz := cut_size s st en hen
  have hr : ReadsInt w .u8 (some ⟨b, o, none⟩) (en - st) ((List.range (cut s st en).size).map (byt (cut s st en))) := by
    refine ⟨by simp [hz], by omega, fun _ => ⟨_, rfl, fun j hj => ?_⟩⟩
    rcases ho with ho | ho
    · omega
    subst ho
    have := h.cell (st + j) (by omega)
    have e1 : (Addr.add ⟨b, off + st, none⟩ j) = ⟨b, off + (st + j), none⟩ := by unfold Addr.add; split <;> simp_all <;> omega
    rw [e1, this, ← byt_cut s st en j hen hj]
    simp [hz, hj]
  have := string_of_reads (P := P) (src := src) (dst := dst) (e := e) (c := c) hs he hd hr
  rw [str_ints] at this
  exact this
theorem nil_string {P : Program} {w : World} {src dst e : TypeId} (hs : P.underlying src = some (.slice e)) (he : P.underlying e = some (.int .u8)) (hd : P.underlying dst = some .string) : (convert src dst (.slice none 0 0)).run P w = .ok (.string ByteArray.empty) w := run_convert_bytes_nil w src e hs he 0 0 dst hd
theorem cut_all (s : ByteArray) : cut s 0 s.size = s := ByteArray.extract_zero_size
theorem add0 (g j : Nat) : (Addr.add ⟨g, 0, none⟩ j) = ⟨g, j, none⟩ := by unfold Addr.add; split <;> simp_all
theorem Kint_chg {S : List Nat} {w w' : World} {k : IntKind} {g n : Nat} {xs : List Int} (h : Kd.C (Kd.int k) w (some ⟨g, 0, none⟩) n xs) (hc : Chg S w w') (hg : g ∉ S) : Kd.C (Kd.int k) w' (some ⟨g, 0, none⟩) n xs := by
  have hr := Kd.reads_of_C (enc := Value.int k) (d := (0 : Int)) (h1 := fun _ => rfl) h
  refine Kd.C_of_reads (d := 0) (h1 := fun _ => rfl) ⟨hr.1, hr.2.1, fun hn => ?_⟩
  obtain ⟨ad, e, hcell⟩ := hr.2.2 hn
  injection e with e
  subst e
  refine ⟨_, rfl, fun j hj => ?_⟩
  have := hcell j hj
  rw [add0] at this ⊢
  exact (World.cell?_of_block (w := w) (hc.block g (World.block_lt_of_cell? w _ this) hg)).trans this
/-- The struct that a splitter is made to. -/
def spOf (a f : ByteArray) (sk ln : Bool) (mx : Int) : Sp := ⟨runes a, runes f, sk, ln, mx⟩
theorem Rd.chg {S : List Nat} {o : Sp} {g0 g1 c0 c1 : Nat} {w w' : World} (h : Rd o (some ⟨g0, 0, none⟩) (some ⟨g1, 0, none⟩) c0 c1 w) (hc : Chg S w w') (h0 : g0 ∉ S) (h1 : g1 ∉ S) : Rd o (some ⟨g0, 0, none⟩) (some ⟨g1, 0, none⟩) c0 c1 w' :=
  ⟨Kint_chg h.r0 hc h0, h.h0, h.l0, Kint_chg h.r1 hc h1, h.h1, h.l1⟩
theorem cell_of {w : World} {g i : Nat} {cs : Array Value} {t : TypeId} {fz : Nat × Nat} {v : Value} (h : w.heap[g]? = some (.cells cs t fz)) (hv : cs[i]? = some v) : w.cell? ⟨g, i, none⟩ = some v := by simp [World.cell?, h, hv]
theorem frz_of {w : World} {g : Nat} {cs : Array Value} {t : TypeId} (h : w.heap[g]? = some (.cells cs t (0, 0))) (i : Nat) : w.frozen? ⟨g, i, none⟩ = false := by simp [World.frozen?, h]
set_option maxHeartbeats 2000000 in
set_option maxRecDepth 100000 in
theorem splitter_calls (w : World) (a f : ByteArray) (sk ln : Bool) (mx : Int) (ha : a.size ≤ 1000000) (hf : f.size ≤ 1000000) :
    Calls Tryd.prog 25 #[.agg #[.string a, .string f, .bool sk, .bool ln, .int .i64 mx]] w fun e w' => ∃ g0 g1 c0 c1, e = .returned (.agg #[.slice (some ⟨g0, 0, none⟩) (runes a).length c0, .slice (some ⟨g1, 0, none⟩) (runes f).length c1, .bool sk, .bool ln, .int .i64 mx]) ∧ Chg [] w w' ∧ w.heap.size ≤ g0 ∧ w.heap.size ≤ g1 ∧ Rd (spOf a f sk ln mx) (some ⟨g0, 0, none⟩) (some ⟨g1, 0, none⟩) c0 c1 w' := by
  have hla := runes_length a
  have hlf := runes_length f
  have HL := Aside0.mk (And.intro hla hlf)
  clear hla hlf
  obtain ⟨w0, hw0⟩ : ∃ w0, w0 = (w.alloc (.cells #[.string a, .string f, .bool sk, .bool ln, .int .i64 mx] 23 (0, 0))).alloc (.cells #[.slice none 0 0, .slice none 0 0, .bool false, .bool false, .int .i64 0] 52 (0, 0)) := ⟨_, rfl⟩
  have hz0 : w0.heap.size = w.heap.size + 2 := by rw [hw0, size_alloc, size_alloc]
  have hc0 : Chg [] w w0 := by rw [hw0]; exact ((Chg.refl [] w).alloc _).alloc _
  have hb0 : w0.heap[w.heap.size]? = some (.cells #[.string a, .string f, .bool sk, .bool ln, .int .i64 mx] 23 (0, 0)) := by
    rw [hw0, Below.heap_alloc _ _ _ (by rw [size_alloc]; omega)]
    exact heap_alloc_new _ _
  have hr0 : w0.heap[w.heap.size + 1]? = some (.cells #[.slice none 0 0, .slice none 0 0, .bool false, .bool false, .int .i64 0] 52 (0, 0)) := by
    have := heap_alloc_new (w.alloc (.cells #[.string a, .string f, .bool sk, .bool ln, .int .i64 mx] 23 (0, 0))) (.cells #[.slice none 0 0, .slice none 0 0, .bool false, .bool false, .int .i64 0] 52 (0, 0))
    rw [size_alloc] at this
    rw [hw0]
    exact this
  have HZ0 := Aside0.mk hz0
  have HC0 := Aside0.mk hc0
  have HB0 := Aside0.mk hb0
  have HR0 := Aside0.mk hr0
  have HW0 := Aside0.mk hw0
  clear hz0 hc0 hb0 hr0 hw0
  go_enter Tryd.func25, Tryd.ntmps25
  go_wp2_with (first
    | (refine wpList_runes rfl _ _ _ _ rfl a rfl Tryd.underlying9 Tryd.underlying50 Tryd.underlying21 (by omega) ?_; rw [← HW0.out, HZ0.out]; intro w1 c1 hc1 hs1 hb1 hcap1; have HC1 := Aside0.mk hc1; have HS1 := Aside0.mk hs1; have HB1 := Aside0.mk hb1; have HP1 := Aside0.mk hcap1; have bx1 := (hc1.block w.heap.size (by have := HZ0.out; omega) (by simp)).trans HB0.out; have br1 := (hc1.block (w.heap.size + 1) (by have := HZ0.out; omega) (by simp)).trans HR0.out; have BR1 := Aside0.mk br1; have BX1 := Aside0.mk bx1; clear hc1 hs1 hb1 hcap1 br1; have cx1 : w1.cell? ⟨w.heap.size, 1, none⟩ = some (.string f) := by simp [World.cell?, bx1])
    | (refine wpList_runes rfl _ _ _ _ rfl f rfl Tryd.underlying9 Tryd.underlying50 Tryd.underlying21 (by omega) ?_; intro w2 c2 hc2 hs2 hb2 hcap2; have HC2 := Aside0.mk hc2; have HS2 := Aside0.mk hs2; have HB2 := Aside0.mk hb2; have HP2 := Aside0.mk hcap2; have bx2 := (hc2.block w.heap.size (by have := HZ0.out; have := HS1.out; omega) (by simp)).trans BX1.out; have br2 := (hc2.block (w.heap.size + 1) (by have := HZ0.out; have := HS1.out; omega) (by simp)).trans BR1.out; have dx2 : w2.cell? ⟨w.heap.size, 2, none⟩ = some (.bool sk) := cell_of bx2 rfl; have dx3 : w2.cell? ⟨w.heap.size, 3, none⟩ = some (.bool ln) := cell_of bx2 rfl; have dx4 : w2.cell? ⟨w.heap.size, 4, none⟩ = some (.int .i64 mx) := cell_of bx2 rfl; have rx0 : w2.cell? ⟨w.heap.size + 1, 0, none⟩ = some (.slice none 0 0) := cell_of br2 rfl; have fx0 : w2.frozen? ⟨w.heap.size + 1, 0, none⟩ = false := frz_of br2 _; have rx1 : w2.cell? ⟨w.heap.size + 1, 1, none⟩ = some (.slice none 0 0) := cell_of br2 rfl; have fx1 : w2.frozen? ⟨w.heap.size + 1, 1, none⟩ = false := frz_of br2 _; have rx2 : w2.cell? ⟨w.heap.size + 1, 2, none⟩ = some (.bool false) := cell_of br2 rfl; have fx2 : w2.frozen? ⟨w.heap.size + 1, 2, none⟩ = false := frz_of br2 _; have rx3 : w2.cell? ⟨w.heap.size + 1, 3, none⟩ = some (.bool false) := cell_of br2 rfl; have fx3 : w2.frozen? ⟨w.heap.size + 1, 3, none⟩ = false := frz_of br2 _; have rx4 : w2.cell? ⟨w.heap.size + 1, 4, none⟩ = some (.int .i64 0) := cell_of br2 rfl; have fx4 : w2.frozen? ⟨w.heap.size + 1, 4, none⟩ = false := frz_of br2 _; have BR2 := Aside0.mk br2; clear bx2 br2 hc2 hs2 hb2 hcap2))
  have HH : ∀ v0 v1 v2 v3 v4, (((((w2.setCell ⟨w.heap.size + 1, 0, none⟩ v0).setCell ⟨w.heap.size + 1, 1, none⟩ v1).setCell ⟨w.heap.size + 1, 2, none⟩ v2).setCell ⟨w.heap.size + 1, 3, none⟩ v3).setCell ⟨w.heap.size + 1, 4, none⟩ v4).heap[w.heap.size + 1]? = some (.cells #[v0, v1, v2, v3, v4] 52 (0, 0)) := fun v0 v1 v2 v3 v4 => by
    have e0 := heap_put w2 ⟨w.heap.size + 1, 0, none⟩ _ _ _ v0 BR2.out rfl
    have e1 := heap_put _ ⟨w.heap.size + 1, 1, none⟩ _ _ _ v1 e0 rfl
    have e2 := heap_put _ ⟨w.heap.size + 1, 2, none⟩ _ _ _ v2 e1 rfl
    have e3 := heap_put _ ⟨w.heap.size + 1, 3, none⟩ _ _ _ v3 e2 rfl
    have e4 := heap_put _ ⟨w.heap.size + 1, 4, none⟩ _ _ _ v4 e3 rfl
    exact e4
  have HCC : ∀ v0 v1 v2 v3 v4, Chg [w.heap.size + 1] w2 (((((w2.setCell ⟨w.heap.size + 1, 0, none⟩ v0).setCell ⟨w.heap.size + 1, 1, none⟩ v1).setCell ⟨w.heap.size + 1, 2, none⟩ v2).setCell ⟨w.heap.size + 1, 3, none⟩ v3).setCell ⟨w.heap.size + 1, 4, none⟩ v4) := fun v0 v1 v2 v3 v4 => by
    repeat (first | exact Chg.refl _ _ | refine Chg.setCell ?_ (.inl (by simp)) _)
  (try simp only [Exit.inBlock, Exit.then])
  refine bodyPost_ret (results_cell_row rfl _ _ (w.heap.size + 1) 52 _ (0, 0) _ rfl (HH _ _ _ _ _) Tryd.underlying52 rfl (by kernel_rfl)) rfl ?_
  have hz1 := HS1.out
  have hz2 := HS2.out
  have hz0 := HZ0.out
  refine ⟨w.heap.size + 2, w1.heap.size, c1, c2, rfl, ((HC0.out.trans HC1.out).trans HC2.out).above (HCC _ _ _ _ _) (fun i hi => .inr (by simp at hi; omega)), by omega, by omega, Kint_chg (Kint_chg HB1.out HC2.out (by simp)) (HCC _ _ _ _ _) (by simp), HP1.out, by have := HL.out.1; show (runes a).length ≤ _; omega, Kint_chg HB2.out (HCC _ _ _ _ _) (by simp; omega), HP2.out, by have := HL.out.2; show (runes f).length ≤ _; omega⟩
end Go.Proofs.YtpjnebmcbeblkaaDoor.Sn
namespace Go.Proofs.YtpjnebmcbeblkaaDoor.Sn
open Go.RowKit Go.Lib
/-- A call with the text at its end. -/
def goC (sp : ByteArray → Bool → Out) (d : ByteArray) : Option ByteArray × Nat × ByteArray :=
  match (sp d true).tok with
  | some (st, en) => (some (cut (sp d true).data st en), 2, cut (sp d true).data (sp d true).adv d.size)
  | none => (none, 2, ByteArray.empty)
/-- A call with the text read, its end not yet. -/
def goB (sp : ByteArray → Bool → Out) (d : ByteArray) : Option ByteArray × Nat × ByteArray :=
  if d.size = 0 then goC sp d else
  match (sp d false).tok with
  | some (st, en) => (some (cut (sp d false).data st en), 1, cut (sp d false).data (sp d false).adv d.size)
  | none => goC sp (cut (sp d false).data (sp d false).adv d.size)
/-- The first call. -/
def goA (sp : ByteArray → Bool → Out) (d : ByteArray) : Option ByteArray × Nat × ByteArray := if d.size = 0 then goC sp d else goB sp d
def run (sp : ByteArray → Bool → Out) : Nat → ByteArray → Option ByteArray × Nat × ByteArray
  | 0, d => goA sp d
  | 1, d => goB sp d
  | _, d => goC sp d
end Go.Proofs.YtpjnebmcbeblkaaDoor.Sn
namespace Go.Proofs.YtpjnebmcbeblkaaDoor.Sn
open Go.RowKit Go.Lib Go.Proofs.YtpjnebmcbeblkaaDoorW.PrintWords Go.Proofs.YtpjnebmcbeblkaaDoor.Gn Go.Proofs.YtpjnebmcbeblkaaDoor.X
/-- The scanner's struct. -/
structure Sc (W : World) (g gp : Nat) (F tok buf err : Value) (st en emp : Nat) (called : Bool) : Prop where
  blk : W.heap[g]? = some (.cells #[.iface 65 (.pointer (some ⟨gp, 0, none⟩)), F, .int .i64 65536, tok, buf, .int .i64 st, .int .i64 en, err, .int .i64 emp, .bool called, .bool false] 84 (0, 0))
theorem Sc.cells {W : World} {g gp : Nat} {F tok buf err : Value} {st en emp : Nat} {called : Bool} (h : Sc W g gp F tok buf err st en emp called) :
    (W.cell? ⟨g, 0, none⟩ = some (.iface 65 (.pointer (some ⟨gp, 0, none⟩))) ∧ W.cell? ⟨g, 1, none⟩ = some F ∧ W.cell? ⟨g, 2, none⟩ = some (.int .i64 65536) ∧ W.cell? ⟨g, 3, none⟩ = some tok ∧ W.cell? ⟨g, 4, none⟩ = some buf ∧ W.cell? ⟨g, 5, none⟩ = some (.int .i64 st) ∧ W.cell? ⟨g, 6, none⟩ = some (.int .i64 en) ∧ W.cell? ⟨g, 7, none⟩ = some err ∧ W.cell? ⟨g, 8, none⟩ = some (.int .i64 emp) ∧ W.cell? ⟨g, 9, none⟩ = some (.bool called) ∧ W.cell? ⟨g, 10, none⟩ = some (.bool false)) ∧
    ∀ i, W.frozen? ⟨g, i, none⟩ = false :=
  ⟨⟨cell_of h.blk rfl, cell_of h.blk rfl, cell_of h.blk rfl, cell_of h.blk rfl, cell_of h.blk rfl, cell_of h.blk rfl, cell_of h.blk rfl, cell_of h.blk rfl, cell_of h.blk rfl, cell_of h.blk rfl, cell_of h.blk rfl⟩, fun i => frz_of h.blk i⟩
theorem Sc.lt {W : World} {g gp : Nat} {F tok buf err : Value} {st en emp : Nat} {called : Bool} (h : Sc W g gp F tok buf err st en emp called) : g < W.heap.size := (Array.getElem?_eq_some_iff.1 h.blk).1
theorem Sc.chg {S : List Nat} {W W' : World} {g gp : Nat} {F tok buf err : Value} {st en emp : Nat} {called : Bool} (h : Sc W g gp F tok buf err st en emp called) (hc : Chg S W W') (hg : g ∉ S) : Sc W' g gp F tok buf err st en emp called := ⟨(hc.block g h.lt hg).trans h.blk⟩
section
variable {W : World} {g gp : Nat} {F tok buf err : Value} {st en emp : Nat} {called : Bool}
theorem Sc.putTok (h : Sc W g gp F tok buf err st en emp called) (v : Value) : Sc (W.setCell ⟨g, 3, none⟩ v) g gp F v buf err st en emp called := ⟨heap_put W ⟨g, 3, none⟩ _ _ _ v h.blk rfl⟩
theorem Sc.putBuf (h : Sc W g gp F tok buf err st en emp called) (v : Value) : Sc (W.setCell ⟨g, 4, none⟩ v) g gp F tok v err st en emp called := ⟨heap_put W ⟨g, 4, none⟩ _ _ _ v h.blk rfl⟩
theorem Sc.putSt (h : Sc W g gp F tok buf err st en emp called) (n : Nat) : Sc (W.setCell ⟨g, 5, none⟩ (.int .i64 n)) g gp F tok buf err n en emp called := ⟨heap_put W ⟨g, 5, none⟩ _ _ _ _ h.blk rfl⟩
theorem Sc.putEn (h : Sc W g gp F tok buf err st en emp called) (n : Nat) : Sc (W.setCell ⟨g, 6, none⟩ (.int .i64 n)) g gp F tok buf err st n emp called := ⟨heap_put W ⟨g, 6, none⟩ _ _ _ _ h.blk rfl⟩
theorem Sc.putErr (h : Sc W g gp F tok buf err st en emp called) (v : Value) : Sc (W.setCell ⟨g, 7, none⟩ v) g gp F tok buf v st en emp called := ⟨heap_put W ⟨g, 7, none⟩ _ _ _ v h.blk rfl⟩
theorem Sc.putEmp (h : Sc W g gp F tok buf err st en emp called) : Sc (W.setCell ⟨g, 8, none⟩ (.int .i64 0)) g gp F tok buf err st en 0 called := ⟨heap_put W ⟨g, 8, none⟩ _ _ _ _ h.blk rfl⟩
theorem Sc.putCalled (h : Sc W g gp F tok buf err st en emp called) : Sc (W.setCell ⟨g, 9, none⟩ (.bool true)) g gp F tok buf err st en emp true := ⟨heap_put W ⟨g, 9, none⟩ _ _ _ _ h.blk rfl⟩
end
theorem nil_neq (W : World) (n : Nat) : (binOp .neq 48 .nilIface .nilIface).run Tryd.prog (W.drewN n) = .ok (.bool false) (W.drewN n) := run_neq_nil_nil _ 48 (by kernel_rfl)
theorem nil_eql (W : World) (n : Nat) : (binOp .eql 48 .nilIface .nilIface).run Tryd.prog (W.drewN n) = .ok (.bool true) (W.drewN n) := run_eql_nil_nil _ 48 (by kernel_rfl)
set_option maxHeartbeats 2000000 in
set_option maxRecDepth 100000 in
theorem advance_calls {W : World} {g gp : Nat} {F tok buf err : Value} {st en emp : Nat} {called : Bool} (h : Sc W g gp F tok buf err st en emp called) (n : Nat) (hn : st + n ≤ en) (he : en ≤ 1000000) :
    Calls Tryd.prog 49 #[.pointer (some ⟨g, 0, none⟩), .int .i64 n] W fun e W' => e = .returned (.bool true) ∧ Sc W' g gp F tok buf err (st + n) en emp called ∧ Chg [g] W W' := by
  obtain ⟨⟨c0, c1, c2, c3, c4, c5, c6, c7, c8, c9, c10⟩, fz⟩ := h.cells
  have f5 := fz 5
  have HS : Aside0 (∀ m, Sc ((W.drewN m).setCell ⟨g, 5, none⟩ (.int .i64 ((st + n : Nat) : Int))) g gp F tok buf err (st + n) en emp called) := ⟨fun m => Sc.putSt (W := W.drewN m) ⟨h.blk⟩ _⟩
  have HC : Aside0 (∀ m v, Chg [g] W ((W.drewN m).setCell ⟨g, 5, none⟩ v)) := ⟨fun m v => ((Chg.refl [g] W).drewN m).setCell (.inl (by simp)) v⟩
  have k1 : decide ((n : Int) < 0) = false := decide_eq_false (by omega)
  have k2 : decide ((en : Int) - (st : Int) < (n : Int)) = false := decide_eq_false (by omega)
  have k3 : IntKind.i64.wrap ((en : Int) - (st : Int)) = (en : Int) - (st : Int) := IntWalk.i64_in _ (by constructor <;> omega)
  have k4 : IntKind.i64.wrap ((st : Int) + (n : Int)) = ((st + n : Nat) : Int) := by rw [Int.natCast_add]; exact IntWalk.i64_in _ (by constructor <;> omega)
  clear h fz
  go_enter Tryd.func49, Tryd.ntmps49
  go_wp2_with fail
  go_quiet (fail)
  go_wp2_with fail
  go_ret
  exact ⟨rfl, HS.out _, HC.out _ _⟩
set_option maxHeartbeats 2000000 in
set_option maxRecDepth 100000 in
theorem setErr_calls {W : World} {g gp : Nat} {F tok buf : Value} {st en emp : Nat} {called : Bool} (h : Sc W g gp F tok buf .nilIface st en emp called) (ea : Addr) :
    Calls Tryd.prog 48 #[.pointer (some ⟨g, 0, none⟩), .iface 106 (.pointer (some ea))] W fun e W' => e = .returned (.tuple #[]) ∧ Sc W' g gp F tok buf (.iface 106 (.pointer (some ea))) st en emp called ∧ Chg [g] W W' := by
  obtain ⟨⟨c0, c1, c2, c3, c4, c5, c6, c7, c8, c9, c10⟩, fz⟩ := h.cells
  have f7 := fz 7
  have HS : Aside0 (∀ m, Sc ((W.drewN m).setCell ⟨g, 7, none⟩ (.iface 106 (.pointer (some ea)))) g gp F tok buf (.iface 106 (.pointer (some ea))) st en emp called) := ⟨fun m => Sc.putErr (W := W.drewN m) ⟨h.blk⟩ _⟩
  have HC : Aside0 (∀ m v, Chg [g] W ((W.drewN m).setCell ⟨g, 7, none⟩ v)) := ⟨fun m v => ((Chg.refl [g] W).drewN m).setCell (.inl (by simp)) v⟩
  have e1 := nil_eql W
  clear h fz
  go_enter Tryd.func48, Tryd.ntmps48
  go_wp2_with fail
  go_quiet (fail)
  go_wp2_with fail
  go_end0
  exact ⟨rfl, HS.out _, HC.out _ _⟩
set_option maxHeartbeats 2000000 in
set_option maxRecDepth 100000 in
theorem text_calls {W : World} {g gp : Nat} {F tok buf err : Value} {st en emp : Nat} {called : Bool} (h : Sc W g gp F tok buf err st en emp called) (t : ByteArray) (ht : (convert 46 9 tok).run Tryd.prog W = .ok (.string t) W) :
    Calls Tryd.prog 41 #[.pointer (some ⟨g, 0, none⟩)] W fun e W' => e = .returned (.string t) ∧ W' = W := by
  obtain ⟨⟨c0, c1, c2, c3, c4, c5, c6, c7, c8, c9, c10⟩, fz⟩ := h.cells
  clear h fz
  go_enter Tryd.func41, Tryd.ntmps41
  go_wp2_with fail
  go_ret
  exact ⟨rfl, rfl⟩
/-- io.EOF holds the pointer ea. -/
structure Eof (W : World) (ea : Addr) : Prop where
  cell : W.cell? ⟨7, 0, none⟩ = some (.iface 106 (.pointer (some ea)))
theorem Eof.lt {W : World} {ea : Addr} (h : Eof W ea) : 7 < W.heap.size := World.block_lt_of_cell? W _ h.cell
theorem Eof.chg {S : List Nat} {W W' : World} {ea : Addr} (h : Eof W ea) (hc : Chg S W W') (hs : 7 ∉ S) : Eof W' ea := ⟨(World.cell?_of_block (w := W) (hc.block 7 h.lt hs)).trans h.cell⟩
theorem Eof.below {w W : World} {ea : Addr} (h : Eof w ea) (hb : Below w.heap.size w W) : Eof W ea := ⟨(World.cell?_of_block (w := w) (hb.block 7 h.lt)).trans h.cell⟩
theorem eof_eql (W : World) (ea : Addr) (n : Nat) : (binOp .eql 48 (.iface 106 (.pointer (some ea))) (.iface 106 (.pointer (some ea)))).run Tryd.prog (W.drewN n) = .ok (.bool true) (W.drewN n) := by
  obtain ⟨i, hi⟩ : ∃ i, Tryd.prog.info? 106 = some i := Option.isSome_iff_exists.1 (by kernel_rfl)
  have hc : i.comparable = true := by
    have : (Tryd.prog.info? 106).map (·.comparable) = some true := by kernel_rfl
    rw [hi] at this
    simpa using this
  obtain ⟨te, hte⟩ : ∃ te, Tryd.prog.underlying 106 = some (.pointer te) := ⟨_, Tryd.underlying106⟩
  obtain ⟨j, hj⟩ : ∃ j, Tryd.prog.info? te = some j := by
    rw [Tryd.underlying106] at hte
    injection hte with hte
    injection hte with hte
    subst hte
    exact Option.isSome_iff_exists.1 (by kernel_rfl)
  exact run_eql_iface_ptr_same _ ea Tryd.underlying48 hte hi hc hj
theorem eof_neq (W : World) (ea : Addr) (n : Nat) : (binOp .neq 48 (.iface 106 (.pointer (some ea))) .nilIface).run Tryd.prog (W.drewN n) = .ok (.bool true) (W.drewN n) := run_neq_held_nil _ 48 _ _ (by kernel_rfl)
theorem eof_eql_nil (W : World) (ea : Addr) (n : Nat) : (binOp .eql 48 (.iface 106 (.pointer (some ea))) .nilIface).run Tryd.prog (W.drewN n) = .ok (.bool false) (W.drewN n) := run_eql_held_nil _ 48 _ _ (by kernel_rfl)
set_option maxHeartbeats 2000000 in
set_option maxRecDepth 100000 in
theorem err_calls {W : World} {g gp : Nat} {F tok buf : Value} {st en emp : Nat} {called : Bool} {ea : Addr} (h : Sc W g gp F tok buf (.iface 106 (.pointer (some ea))) st en emp called) (he : Eof W ea) :
    Calls Tryd.prog 42 #[.pointer (some ⟨g, 0, none⟩)] W fun e W' => e = .returned .nilIface ∧ Chg [] W W' := by
  obtain ⟨⟨c0, c1, c2, c3, c4, c5, c6, c7, c8, c9, c10⟩, fz⟩ := h.cells
  have e1 := eof_eql W ea
  have e2 := he.cell
  have HC := Aside0.mk (fun m => (Chg.refl [] W).drewN m)
  clear h fz he
  go_enter Tryd.func42, Tryd.ntmps42
  go_wp2_with fail
  go_quiet (fail)
  go_wp2_with fail
  go_ret
  exact ⟨rfl, HC.out _⟩
/-- The reader: n bytes are left to be read. -/
structure Pc (W : World) (gp : Nat) (tx : Value) : Prop where
  blk : ∃ A c2, W.heap[gp]? = some (.cells #[tx, .slice A 0 c2] 67 (0, 0))
theorem Pc.lt {W : World} {gp : Nat} {tx : Value} (h : Pc W gp tx) : gp < W.heap.size := by
  obtain ⟨A, c2, h⟩ := h.blk
  exact (Array.getElem?_eq_some_iff.1 h).1
theorem Pc.chg {S : List Nat} {W W' : World} {gp : Nat} {tx : Value} (h : Pc W gp tx) (hc : Chg S W W') (hg : gp ∉ S) : Pc W' gp tx := by
  obtain ⟨A, c2, h1⟩ := h.blk
  exact ⟨A, c2, (hc.block gp h.lt hg).trans h1⟩
set_option maxHeartbeats 2000000 in
set_option maxRecDepth 100000 in
theorem read_eof {W : World} {gp : Nat} {T : Option Addr} {c : Nat} {ea : Addr} (h : Pc W gp (.slice T 0 c)) (he : Eof W ea) (b : Value) :
    Calls Tryd.prog 70 #[.pointer (some ⟨gp, 0, none⟩), b] W fun e W' => e = .returned (.tuple #[.int .i64 0, .iface 106 (.pointer (some ea))]) ∧ Chg [] W W' := by
  obtain ⟨A, c2, hb⟩ := h.blk
  have c0 := cell_of (i := 0) hb rfl
  have c1 := cell_of (i := 1) hb rfl
  have e2 := he.cell
  have HC := Aside0.mk (fun m => (Chg.refl [] W).drewN m)
  clear h hb he
  go_enter Tryd.func70, Tryd.ntmps70
  go_wp2_with fail
  go_quiet (fail)
  go_wp2_with fail
  go_ret2
  exact ⟨rfl, HC.out _⟩
end Go.Proofs.YtpjnebmcbeblkaaDoor.Sn
namespace Go.Proofs.YtpjnebmcbeblkaaDoor.X
open Go.RowKit Go.Lib Go.Shelf Go.Proofs.YtpjnebmcbeblkaaDoor.Sn
theorem laid_mem {P : Program} {w : World} : ∀ {l : List (String × DataW Unit)} {ps : List MemPlace}, DataW.LaidVars P w l ps → ∀ n d, (n, d) ∈ l → ∃ g t cs fuel p, P.globalNamed n = some g ∧ (P.globals[g]?).map (·.type) = some t ∧ w.var? P n = some cs ∧ DataW.trod (fun _ => ()) P w 0 (fun _ => true) false fuel t cs.toList = some (d, p) ∧ ∀ x ∈ MemPlace.row ⟨g, 0, none⟩ cs.size, x ∈ ps
  | [], _, _, _, _, hm => by cases hm
  | (n', d') :: r, ps, h, n, d, hm => by
    obtain ⟨g, t, cs, fuel, p, q, h1, h2, h3, h4, h5, h6⟩ := h
    rcases List.mem_cons.1 hm with hm | hm
    · injection hm with e1 e2
      subst e1 e2
      exact ⟨g, t, cs, fuel, p, h1, h2, h3, h4, fun x hx => by rw [h6]; simp [hx]⟩
    · obtain ⟨g2, t2, cs2, fuel2, p2, k1, k2, k3, k4, k5⟩ := laid_mem h5 n d hm
      exact ⟨g2, t2, cs2, fuel2, p2, k1, k2, k3, k4, fun x hx => by rw [h6]; simp [k5 x hx]⟩
theorem row_err (u : TypeId) (h : Tryd.prog.typeName? 3 u = some "*errors.errorString") : u = 106 :=
  typeName_ptr_named (nm := "errors.errorString") (by rw [show "*" ++ "errors.errorString" = "*errors.errorString" by decide]; kernel_rfl) (by kernel_rfl) (by decide) u (by rw [show "*" ++ "errors.errorString" = "*errors.errorString" by decide]; exact h)
set_option maxRecDepth 100000 in
theorem eof_in {laid : List (String × DataW Unit)} (hm : ("io.EOF", Rows.laid_io_EOF) ∈ laid) {W : World} (h : laidMet Tryd.prog laid W) : ∃ ea, Eof W ea := by
  obtain ⟨ps, hl, _, hrows⟩ := h
  obtain ⟨g, t, cs, fuel, p, h1, h2, h3, h4, h5⟩ := laid_mem hl _ _ hm
  have hg7 : Tryd.prog.globalNamed "io.EOF" = some 7 := by kernel_rfl
  obtain rfl : 7 = g := Option.some.inj (hg7.symm.trans h1)
  have ht7 : (Tryd.prog.globals[(7 : Nat)]?).map (·.type) = some 48 := by kernel_rfl
  obtain rfl : 48 = t := Option.some.inj (ht7.symm.trans h2)
  obtain ⟨l⟩ := cs
  have hcell := World.var?_cell h1 h3
  obtain ⟨a, s, e, _⟩ := errorString_of_trod Tryd.underlying48 row_err Tryd.underlying106 Tryd.underlying122 rfl rfl Tryd.underlying9 (by kernel_rfl) (by kernel_rfl) h4 (fun u v e => by
    have e : l = [.iface u v] := e
    subst e
    exact (hrows 7 0 (h5 _ (by simp [MemPlace.row]))).2 u v (by simpa using hcell 0))
  have e : l = [.iface 106 (.pointer (some a))] := e
  subst e
  exact ⟨a, ⟨by simpa using hcell 0⟩⟩
end Go.Proofs.YtpjnebmcbeblkaaDoor.X
namespace Go.Proofs.YtpjnebmcbeblkaaDoor.X2
open Go.RowKit Go.Lib Go.Shelf Go.Proofs.YtpjnebmcbeblkaaDoor.Sn
structure Tabs (W : World) : Prop where
  tabs : Go.Proofs.YtpjnebmcbeblkaaDoor.X.Tabs W
  eof : ∃ ea, Eof W ea
theorem Tabs.below {w W : World} (h : Tabs w) (hb : Below w.heap.size w W) : Tabs W := ⟨h.tabs.below hb, by obtain ⟨ea, he⟩ := h.eof; exact ⟨ea, he.below hb⟩⟩
def laidAll : List (String × DataW Unit) := [("unicode/utf8.acceptRanges", Rows.laid_unicode_utf8_acceptRanges), ("io.EOF", Rows.laid_io_EOF), ("io.ErrNoProgress", Rows.laid_io_ErrNoProgress), ("unicode.White_Space", Rows.laid_unicode_White_Space), ("bufio.ErrTooLong", Rows.laid_bufio_ErrTooLong), ("bufio.ErrNegativeAdvance", Rows.laid_bufio_ErrNegativeAdvance), ("bufio.ErrAdvanceTooFar", Rows.laid_bufio_ErrAdvanceTooFar), ("bufio.ErrBadReadCount", Rows.laid_bufio_ErrBadReadCount), ("bufio.ErrFinalToken", Rows.laid_bufio_ErrFinalToken), ("unicode/utf8.first", Rows.laid_unicode_utf8_first)]
theorem tabs_of {W : World} (h : laidMet Tryd.prog laidAll W) : Tabs W := ⟨Go.Proofs.YtpjnebmcbeblkaaDoor.X.tabs_in (by unfold laidAll; simp) (by unfold laidAll; simp) (by unfold laidAll; simp) h, Go.Proofs.YtpjnebmcbeblkaaDoor.X.eof_in (by unfold laidAll; simp) h⟩
set_option maxRecDepth 100000 in
theorem laid_world (os : Os) (args : Array Value) : laidMet Tryd.prog laidAll ((World.laidAll Tryd.prog os laidAll).forCall (fun _ _ => 0) ⟨#[], args, []⟩).memory := laidMet_laidAll _ (by kernel_rfl) (by kernel_rfl)
end Go.Proofs.YtpjnebmcbeblkaaDoor.X2
