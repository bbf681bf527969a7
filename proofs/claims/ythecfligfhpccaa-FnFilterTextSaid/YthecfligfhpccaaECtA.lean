/- The text of contents: the walk through the writer, the joins and the builder. -/
import Derived.Test.YthecfligfhpccaaShelfB
import Derived.Test.YthecfligfhpccaaXLaws
import Derived.Test.YthecfligfhpccaaXEv
import Derived.Stop.Asserts
set_option linter.unusedVariables false
namespace Go.Proofs.Ythecfligfhpccaa.P
open Go.RowKit Go.Proofs.YthecfligfhpccaaW.PrintWords Go.Proofs.YthecfligfhpccaaW.PrintLast Go.Proofs.YthecfligfhpccaaW.PrintMore
open Go.Proofs.Ythecfligfhpccaa.X

theorem lays166 : Go.Proofs.Lays.n166 Try.prog Try.lays156_ren :=
  let L := Try.lays156
  { mixed := L.mixed, f166 := L.f166, f240 := L.f240, f276 := L.f276, t0 := L.t0, a0 := L.a0, z0 := L.z0, v0 := L.v0, t3 := L.t3, a3 := L.a3, z3 := L.z3, v3 := L.v3, t4 := L.t4, a4 := L.a4, z4 := L.z4, v4 := L.v4, t9 := L.t9, a9 := L.a9, z9 := L.z9, v9 := L.v9, t20 := L.t20, a20 := L.a20, z20 := L.z20, v20 := L.v20, t37 := L.t37, a37 := L.a37, z37 := L.z37, v37 := L.v37, t70 := L.t70, a70 := L.a70, z70 := L.z70, v70 := L.v70, t72 := L.t72, a72 := L.a72, z72 := L.z72, v72 := L.v72, t75 := L.t75, a75 := L.a75, z75 := L.z75, v75 := L.v75, t164 := L.t164, a164 := L.a164, z164 := L.z164, v164 := L.v164 }
theorem writeString (B b : Nat) (bs : List Value) (s : ByteArray) (w : World) (h : Lib.IsBuilder 48 5 B b bs w) (hlen : bs.length + s.size ≤ 140737488355328) (hBw : B ≤ w.heap.size) :
    Calls Try.prog 38 #[.pointer (some ⟨b, 0, none⟩), .string s] w fun e w' => e = .returned (.tuple #[.int .i64 s.size, .nilIface]) ∧ (Lib.BuilderAt 48 5 B b (.pointer (some ⟨b, 0, none⟩)) (bs ++ Lib.strCells s) w' ∧ Below B w w') := Any.Builder_WriteString lays166 Try.Builder_Extra_156 B b bs s w h hlen hBw
/-- What a join tells. -/
def joined (xs : List ByteArray) (sep : ByteArray) : ByteArray := ⟨(Lib.join (xs.map (·.data.toList)) sep.data.toList).toArray⟩
theorem C_cells {w : World} {A : Option Addr} {xs : List ByteArray} (h : Kd.string.C w A xs.length xs) (hx : xs ≠ []) : ∃ bk o, A = some ⟨bk, o, none⟩ ∧ (∀ (j : Nat) x, xs[j]? = some x → w.cell? ⟨bk, o + j, none⟩ = some (.string x)) ∧ bk < w.heap.size := by
  have hp : 0 < xs.length := List.length_pos_iff.2 hx
  obtain ⟨ad, e, h0⟩ := Kd.at_string h 0 (by omega) (by omega)
  subst e
  have hsp : ad.spot = none := by
    cases hs : ad.spot with
    | none => rfl
    | some q =>
      have : ad.add (0 : Int).toNat = ad := rfl
      rw [this] at h0
      unfold World.cell? at h0
      split at h0
      · rw [hs] at h0; simp at h0
      · cases h0
  obtain ⟨bk, o, sp⟩ := ad
  dsimp only at hsp
  subst hsp
  refine ⟨bk, o, rfl, fun j x hj => ?_, ?_⟩
  · have hjl := (List.getElem?_eq_some_iff.1 hj).1
    obtain ⟨ad2, e2, h2⟩ := Kd.at_string h (j : Int) (by omega) (by omega)
    cases e2
    rw [rdOf_nat _ _ _ hjl, Int.toNat_natCast] at h2
    have hx2 : xs[j] = x := (List.getElem?_eq_some_iff.1 hj).2
    rw [hx2] at h2
    have : (Addr.add ⟨bk, o, none⟩ j) = ⟨bk, o + j, none⟩ := by
      unfold Addr.add
      by_cases hz : j = 0
      · rw [if_pos hz, hz]; rfl
      · rw [if_neg hz]
    rwa [this] at h2
  · exact World.block_lt_of_cell? w _ h0
theorem join_calls (A : Option Addr) (c : Nat) (xs : List ByteArray) (sep : ByteArray) (w : World) (h : Kd.string.C w A xs.length xs) (hc : xs.length ≤ c) (hl : xs.length ≤ 140737488355328) (hlen : (joined xs sep).size ≤ 140737488355328) :
    Calls Try.prog 31 #[.slice A xs.length c, .string sep] w fun e w' => e = .returned (.string (joined xs sep)) ∧ Below w.heap.size w w' := by
  by_cases hx : xs = []
  · subst hx
    exact (Try.strings_Join_none A c sep w).mono fun e w' ⟨he, hw⟩ => ⟨he, hw ▸ Below.refl _ _⟩
  · obtain ⟨bk, o, rfl, h1, h2⟩ := C_cells h hx
    exact Try.strings_Join bk o c xs sep w h1 h2 hl hc (by simpa [joined, ByteArray.size] using hlen)

set_option maxHeartbeats 4000000 in
set_option maxRecDepth 100000 in
theorem ioWrite_calls (B b : Nat) (bs : List Value) (s : ByteArray) (w : World) (h : Lib.IsBuilder 48 5 B b bs w) (hlen : bs.length + s.size ≤ 140737488355328) (hBw : B ≤ w.heap.size) :
    Calls Try.prog 30 #[.iface 45 (.pointer (some ⟨b, 0, none⟩)), .string s] w fun e w' => e = .returned (.tuple #[.int .i64 s.size, .nilIface]) ∧ (Lib.BuilderAt 48 5 B b (.pointer (some ⟨b, 0, none⟩)) (bs ++ Lib.strCells s) w' ∧ Below B w w') := by
  have H := Aside0.mk h
  clear h
  have hty := fun (v : Value) (w : World) => run_typeAssert_hasB (P := Try.prog) (t := 45) Try.underlying78 (by kernel_rfl) v 63 w
  have hme : ∀ w : World, Sem.run Try.prog (method 239 45 (.pointer (some ⟨b, 0, none⟩)) "WriteString") w = .ok (38, .pointer (some ⟨b, 0, none⟩)) w := fun _ => by kernel_rfl
  go_enter Try.func30, Try.ntmps30
  go_wp2_with fail
  refine (writeString B b bs s w H.out hlen hBw).mono ?_
  rintro e w1 ⟨rfl, hat, hb⟩
  have HA := Aside0.mk hat
  have HB := Aside0.mk hb
  clear hat hb
  go_wp2
  go_ret2
  exact ⟨rfl, HA.out, HB.out⟩
/-- What is written: all rows but the last with a line feed behind each, then the last. -/
def NL : ByteArray := ⟨#[10]⟩
def BEL : ByteArray := ⟨#[7]⟩
def rowB (x : List ByteArray) : List UInt8 := (joined x BEL).data.toList
def partB (l : List (List ByteArray)) (i : Nat) : List UInt8 := ((l.take i).map (fun x => rowB x ++ [10])).flatten
def textB (l : List (List ByteArray)) : List UInt8 := partB l (l.length - 1) ++ rowB (rd_L1 l ((l.length : Int) - 1))
theorem partB_succ (l : List (List ByteArray)) (i : Nat) (h : i < l.length) : partB l (i + 1) = partB l i ++ (rowB (rd_L1 l (i : Int)) ++ [10]) := by
  unfold partB
  rw [List.take_succ_eq_append_getElem h, List.map_append, List.flatten_append]
  simp only [List.map_cons, List.map_nil, List.flatten_cons, List.flatten_nil, List.append_nil]
  simp only [rd_L1, Int.toNat_natCast, List.getD_eq_getElem?_getD]
  rw [List.getElem?_eq_getElem h]
  rfl
theorem cells_more (a : List UInt8) (s : ByteArray) : Lib.byteCells a ++ Lib.strCells s = Lib.byteCells (a ++ s.data.toList) := by
  unfold Lib.byteCells Lib.strCells
  rw [List.map_append]
theorem nl_list (x : List ByteArray) : (joined x BEL ++ (⟨#[10]⟩ : ByteArray)).data.toList = rowB x ++ [10] := by
  unfold rowB
  rw [ByteArray.data_append]
  simp
theorem size_list (s : ByteArray) : s.size = s.data.toList.length := by rw [Array.length_toList]; rfl
theorem rowB_length (x : List ByteArray) : (rowB x).length = (joined x BEL).size := by
  unfold rowB
  rw [Array.length_toList]; rfl
theorem partB_length (l : List (List ByteArray)) (M : Nat) (h : ∀ x ∈ l, (joined x BEL).size ≤ M) (i : Nat) : (partB l i).length ≤ i * (M + 1) := by
  induction i with
  | zero => simp [partB]
  | succ i ih =>
    by_cases hi : i < l.length
    · rw [partB_succ l i hi, List.length_append, List.length_append, rowB_length]
      have hm : rd_L1 l (i : Int) ∈ l := by simp [rd_L1, hi]
      have := h _ hm
      rw [Nat.succ_mul]
      simp
      omega
    · have : partB l (i + 1) = partB l i := by
        unfold partB
        rw [List.take_of_length_le (by omega), List.take_of_length_le (by omega)]
      rw [this, Nat.succ_mul]
      omega
theorem builder_below {T e B b : Nat} {p : Value} {bs : List Value} {W W' : World} (h : Lib.BuilderAt T e B b p bs W) (hb : Below W.heap.size W W') : Lib.BuilderAt T e B b p bs W' := by
  obtain ⟨h1, v, h2, h3, h4⟩ := h
  exact ⟨h1, v, blk_below h2 hb, own_move h3 (fun k hk => hb.block k (own_lt h3 k hk)), h4⟩
theorem isBuilder_below {T e B b : Nat} {bs : List Value} {W W' : World} (h : Lib.IsBuilder T e B b bs W) (hb : Below W.heap.size W W') : Lib.IsBuilder T e B b bs W' := by
  rcases h with h | h
  · exact .inl (builder_below h hb)
  · exact .inr (builder_below h hb)
set_option maxHeartbeats 8000000 in
set_option maxRecDepth 100000 in
theorem writeTo_calls (w0 w : World) (A : Option Addr) (c : Nat) (l : List (List ByteArray)) (hr : Kd.C (Kd.slice 9 Kd.string) w0 A l.length l) (hc : l.length ≤ c) (h2 : 2 ≤ l.length) (hl : l.length ≤ 10) (hx : ∀ x ∈ l, x.length ≤ 10 ∧ (joined x BEL).size ≤ 1000000) (h : Lib.IsBuilder 48 5 w0.heap.size w0.heap.size (Lib.byteCells []) w) (hB : Below w0.heap.size w0 w) :
    Calls Try.prog 22 #[.slice A l.length c, .iface 45 (.pointer (some ⟨w0.heap.size, 0, none⟩))] w fun e w' => e = .returned (.tuple #[.int .i64 (textB l).length, .nilIface]) ∧ Lib.IsBuilder 48 5 w0.heap.size w0.heap.size (Lib.byteCells (textB l)) w' ∧ Below w0.heap.size w0 w' := by
  have HR := Aside0.mk hr
  have HX := Aside0.mk hx
  have H := Aside0.mk h
  have HB := Aside0.mk hB
  have HP := Aside0.mk (partB_length l 1000000 (fun x hm => (hx x hm).2))
  clear hr hx h hB
  go_enter Try.func22, Try.ntmps22
  go_wp2_with fail
  go_loopw [4, 15] (fun v4 v15 wr => ∃ i : Int, v15 = .int .i64 i ∧ v4 = .int .i64 (partB l i.toNat).length ∧ Aside0 (0 ≤ i ∧ i ≤ (l.length : Int) - 1) ∧ Aside0 (Lib.IsBuilder 48 5 w0.heap.size w0.heap.size (Lib.byteCells (partB l i.toNat)) wr) ∧ Aside0 (Below w0.heap.size w0 wr)) (fun _ v15 _ => l.length - (intOf v15).toNat)
  case atStart => exact ⟨0, rfl, rfl, ⟨by omega⟩, H, HB⟩
  case round =>
    clear H HB
    obtain ⟨i, rfl, rfl, HI, H, HB⟩ := hrel
    obtain ⟨hi0, hi1⟩ := HI.out
    by_cases hlt : i < (l.length : Int) - 1
    · have hb1 : decide (i < (l.length : Int) - 1) = true := decide_eq_true hlt
      have hlt2 : i < (l.length : Int) := by omega
      have hb2 : decide (i < (l.length : Int)) = true := decide_eq_true hlt2
      have g0 : decide ((0 : Int) ≤ i) = true := decide_eq_true hi0
      obtain ⟨ad, A1, c1, e0, hx, hlc, hC⟩ := at_L1 (Kd.C_below HR.out HB.out) i hi0 hlt2
      subst e0
      have hn : i.toNat < l.length := by omega
      have hmem : rd_L1 l i ∈ l := by simp [rd_L1, hn]
      have hbx := HX.out _ hmem
      have hps := partB_succ l i.toNat hn
      rw [Int.toNat_of_nonneg hi0] at hps
      have HPS := Aside0.mk hps
      have HBX := Aside0.mk hbx
      have HC := Aside0.mk hC
      have HPL := Aside0.mk (HP.out i.toNat)
      clear hmem hbx hps hC
      generalize rd_L1 l i = x at *
      go_wp2_with fail
      refine (join_calls A1 c1 x BEL wr HC.out hlc (by have := HBX.out.1; omega) (by have := HBX.out.2; omega)).mono ?_
      rintro e w1 ⟨rfl, hb⟩
      have H1 := Aside0.mk (isBuilder_below H.out hb)
      have HB1 := Aside0.mk (HB.out.trans (hb.mono HB.out.size))
      clear hb hx
      have hsz : (joined x BEL).size ≤ 1000000 := HBX.out.2
      have hsz2 : ¬ 9223372036854775807 < (joined x BEL).size + 1 := by omega
      have hsz3 : (joined x BEL).size + 1 ≤ 9223372036854775807 := by omega
      go_wp2_with fail
      clear hsz2 hsz3
      have hnl := nl_list x
      have hsl := size_list (joined x BEL ++ (⟨#[10]⟩ : ByteArray))
      rw [hnl, List.length_append, rowB_length] at hsl
      have hcat := cells_more (partB l i.toNat) (joined x BEL ++ (⟨#[10]⟩ : ByteArray))
      rw [hnl, ← HPS.out] at hcat
      have hlen : (partB l i.toNat).length + (joined x BEL ++ (⟨#[10]⟩ : ByteArray)).size = (partB l (i.toNat + 1)).length := by
        rw [HPS.out, List.length_append, size_list, hnl]
      have hin : i.toNat + 1 = (i + 1).toNat := by omega
      rw [hin] at hcat hlen
      have hs1 : (joined x BEL ++ (⟨#[10]⟩ : ByteArray)).size ≤ 1000001 := by
        rw [hsl]; have := HBX.out.2; simp; omega
      have hpl : (partB l i.toNat).length ≤ 10000010 := by have := HPL.out; omega
      have HCAT := Aside0.mk hcat
      have HLEN := Aside0.mk (show (((partB l i.toNat).length : Int) + ((joined x BEL ++ (⟨#[10]⟩ : ByteArray)).size : Int)) = ((partB l (i + 1).toNat).length : Int) by omega)
      have HIN := Aside0.mk hin
      clear hnl hsl hcat hlen hin HPS
      generalize joined x BEL ++ (⟨#[10]⟩ : ByteArray) = s at *
      refine (ioWrite_calls _ _ _ s w1 H1.out (by rw [Lib.byteCells, List.length_map]; omega) HB1.out.size).mono ?_
      rintro e w2 ⟨rfl, hat, hb⟩
      rw [HCAT.out] at hat
      have H2 := Aside0.mk (show Lib.IsBuilder 48 5 w0.heap.size w0.heap.size (Lib.byteCells (partB l (i + 1).toNat)) w2 from .inr hat)
      have HB2 := Aside0.mk (HB1.out.trans hb)
      clear hat hb
      go_wp2
      go_roundw
      case rel => exact ⟨i + 1, rfl, by rw [HLEN.out], ⟨by omega⟩, H2, HB2⟩
      case measure => simp [intOf]; omega
    · have hb1 : decide (i < (l.length : Int) - 1) = false := decide_eq_false hlt
      have hie : i = (l.length : Int) - 1 := by omega
      subst hie
      have htn : ((l.length : Int) - 1).toNat = l.length - 1 := by omega
      rw [htn] at H
      have hlt2 : (l.length : Int) - 1 < (l.length : Int) := by omega
      have hb2 : decide ((l.length : Int) - 1 < (l.length : Int)) = true := decide_eq_true hlt2
      have hp0 : (0 : Int) ≤ (l.length : Int) - 1 := by omega
      have g0 : decide ((0 : Int) ≤ (l.length : Int) - 1) = true := decide_eq_true hp0
      have hp1 : (0 : Int) < (l.length : Int) - 1 := by omega
      have g1 : decide ((0 : Int) < (l.length : Int) - 1) = true := decide_eq_true hp1
      obtain ⟨ad, A1, c1, e0, hx, hlc, hC⟩ := at_L1 (Kd.C_below HR.out HB.out) ((l.length : Int) - 1) hp0 hlt2
      subst e0
      have hmem : rd_L1 l ((l.length : Int) - 1) ∈ l := by
        have hn : l.length - 1 < l.length := by omega
        simp [rd_L1, htn, hn]
      have hbx := HX.out _ hmem
      have hps : textB l = partB l (l.length - 1) ++ rowB (rd_L1 l ((l.length : Int) - 1)) := rfl
      have HPS := Aside0.mk hps
      have HBX := Aside0.mk hbx
      have HC := Aside0.mk hC
      have HPL := Aside0.mk (HP.out (l.length - 1))
      have HTN := Aside0.mk htn
      rw [htn] at hx
      clear hmem hbx hps hC htn
      generalize rd_L1 l ((l.length : Int) - 1) = x at *
      go_wp2_with fail
      refine (join_calls A1 c1 x BEL wr HC.out hlc (by have := HBX.out.1; omega) (by have := HBX.out.2; omega)).mono ?_
      rintro e w1 ⟨rfl, hb⟩
      have H1 := Aside0.mk (isBuilder_below H.out hb)
      have HB1 := Aside0.mk (HB.out.trans (hb.mono HB.out.size))
      clear hb hx
      have hcat := cells_more (partB l (l.length - 1)) (joined x BEL)
      have hrb : (joined x BEL).data.toList = rowB x := rfl
      rw [hrb, ← HPS.out] at hcat
      have hsz : (joined x BEL).size ≤ 1000000 := HBX.out.2
      have hpl : (partB l (l.length - 1)).length ≤ 10000010 := by have := HPL.out; omega
      have hlen : (((partB l (l.length - 1)).length : Int) + ((joined x BEL).size : Int)) = ((textB l).length : Int) := by
        rw [HPS.out, List.length_append, rowB_length]; omega
      have HCAT := Aside0.mk hcat
      have HLEN := Aside0.mk hlen
      clear hcat hlen hrb
      generalize joined x BEL = s at *
      go_wp2_with fail
      refine (ioWrite_calls _ _ _ s w1 H1.out (by rw [Lib.byteCells, List.length_map]; omega) HB1.out.size).mono ?_
      rintro e w2 ⟨rfl, hat, hb⟩
      rw [HCAT.out] at hat
      have H2 := Aside0.mk (show Lib.IsBuilder 48 5 w0.heap.size w0.heap.size (Lib.byteCells (textB l)) w2 from .inr hat)
      have HB2 := Aside0.mk (HB1.out.trans hb)
      clear hat hb
      go_wp2
      go_ret2
      exact ⟨congrArg (fun z => Ending.returned (.tuple #[.int .i64 z, .nilIface])) HLEN.out, H2.out, HB2.out⟩
def textOk (l : List (List ByteArray)) : Prop := 2 ≤ l.length ∧ l.length ≤ 10 ∧ ∀ x ∈ l, x.length ≤ 10 ∧ (joined x BEL).size ≤ 1000000
instance (l : List (List ByteArray)) : Decidable (textOk l) := by unfold textOk; infer_instance
def impl_ContentsText.f (l : List (List ByteArray)) : Option (ByteArray × Int) := if textOk l then some (⟨(textB l).toArray⟩, ((textB l).length : Int)) else none
set_option maxHeartbeats 8000000 in
set_option maxRecDepth 100000 in
theorem impl_ContentsText.calls (A0 : Option Addr) (c0 : Nat) (l0 : List (List ByteArray)) (r1 : ByteArray) (r2 : Int) (w : World) (hr0 : Kd.C (Kd.slice 9 Kd.string) w A0 l0.length l0) (hc0 : l0.length ≤ c0) (h : impl_ContentsText.f l0 = some (r1, r2)) :
    Calls Try.prog 7 #[.slice A0 l0.length c0] w fun e w' => e = .returned (.tuple #[.string r1, .int .i64 r2]) ∧ Below w.heap.size w w' := by
  unfold impl_ContentsText.f at h
  split at h
  case isFalse => cases h
  case isTrue hok =>
    injection h with h
    injection h with h1 h2
    obtain ⟨ho1, ho2, ho3⟩ := hok
    have HR := Aside0.mk hr0
    have HX := Aside0.mk ho3
    have E1 := Aside0.mk h1
    have E2 := Aside0.mk h2
    clear hr0 ho3 h1 h2
    go_enter Try.func7, Try.ntmps7
    go_wp2_with fail
    have hw1 : Below w.heap.size w (w.alloc (Obj.cells #[Value.pointer none, Value.slice none 0 0] 48)) := below_alloc (Below.refl _ _) _
    have hib : Lib.IsBuilder 48 5 w.heap.size w.heap.size (Lib.byteCells []) (w.alloc (Obj.cells #[Value.pointer none, Value.slice none 0 0] 48)) := .inl ⟨Nat.le_refl _, .slice none 0 0, heap_new w _, ⟨rfl, .inl ⟨rfl, rfl⟩⟩, by simp [Value.ownBlock]⟩
    refine (writeTo_calls w _ A0 c0 l0 HR.out hc0 ho1 ho2 HX.out hib hw1).mono ?_
    rintro e w1 ⟨rfl, hat, hb⟩
    have H1 := Aside0.mk hat
    have HB1 := Aside0.mk hb
    clear hib hw1 hat hb
    go_wp2_with fail
    refine (Try.Builder_String_any w.heap.size w.heap.size (textB l0) w1 H1.out HB1.out.size).mono ?_
    rintro e w2 ⟨rfl, hb⟩
    have HB2 := Aside0.mk (HB1.out.trans hb)
    clear hb
    go_wp2
    go_ret2
    exact ⟨by rw [← E1.out, ← E2.out]; rfl, HB2.out⟩
end Go.Proofs.Ythecfligfhpccaa.P
