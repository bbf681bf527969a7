/- The text of a filter: the walk over its nodes. -/
import Derived.Test.YthecfligfhpccaaEFilD
import Derived.Test.YthecfligfhpccaaEFilT
import Derived.Test.YthecfligfhpccaaECtA
import Derived.Deep.RegionHeld3
set_option linter.unusedVariables false
namespace Go.Proofs.Ythecfligfhpccaa.P
open Go.RowKit Go.Proofs.YthecfligfhpccaaW.PrintWords Go.Proofs.YthecfligfhpccaaW.PrintLast Go.Proofs.YthecfligfhpccaaW.PrintMore
open Go.Proofs.Ythecfligfhpccaa.X

def textTo (G : List Fil.Nd) (k d n i : Nat) : List UInt8 := (((Fil.node G n).take i).map (fun e => Fil.line d e.1 ++ Fil.rend G k (d + 1) e.2)).flatten
theorem textTo_succ (G : List Fil.Nd) (k d n i : Nat) (e : ByteArray × Nat) (h : (Fil.node G n)[i]? = some e) : textTo G k d n (i + 1) = textTo G k d n i ++ (Fil.line d e.1 ++ Fil.rend G k (d + 1) e.2) := by
  obtain ⟨hl, he⟩ := List.getElem?_eq_some_iff.1 h
  unfold textTo
  rw [List.take_succ_eq_append_getElem hl, List.map_append, List.flatten_append, he]
  simp
theorem textTo_pre (G : List Fil.Nd) (k d n i : Nat) : (textTo G k d n i).length ≤ (Fil.rend G (k + 1) d n).length := by
  have h : Fil.rend G (k + 1) d n = textTo G k d n i ++ (((Fil.node G n).drop i).map (fun e => Fil.line d e.1 ++ Fil.rend G k (d + 1) e.2)).flatten := by
    simp only [Fil.rend, textTo]
    rw [← List.flatten_append, ← List.map_append, List.take_append_drop]
  rw [h, List.length_append]
  omega

theorem rep_flat (d : Nat) : Lib.repeatL [(32 : UInt8), 32] d = (List.replicate d [(32 : UInt8), 32]).flatten := by
  induction d with
  | zero => rfl
  | succ d ih => rw [Lib.repeatL, List.replicate_succ, List.flatten_cons, ih]
theorem rep_len (d : Nat) : (List.replicate d [(32 : UInt8), 32]).flatten.length = 2 * d := by
  induction d with
  | zero => rfl
  | succ d ih => rw [List.replicate_succ, List.flatten_cons, List.length_append, ih]; simp; omega
set_option maxHeartbeats 8000000 in
set_option maxRecDepth 100000 in
theorem fstr_calls (wt : World) (base : Nat) (bs : List Nat) (G : List Fil.Nd) (lv : Nat → Nat) (hT : FTree wt base bs G) (hRd : Fil.Rd G lv) (k : Nat) : ∀ (n b d : Nat) (acc : List UInt8) (w : World), bs[n]? = some b → lv n = d → d + k = 9 → d ≤ 8 → Lib.IsBuilder 48 5 wt.heap.size wt.heap.size (Lib.byteCells acc) w → Below wt.heap.size wt w → acc.length + (Fil.rend G k d n).length ≤ 100000000000000 →
    Calls Try.prog 34 #[.iface 45 (.pointer (some ⟨wt.heap.size, 0, none⟩)), .int .i64 d, .pointer (some ⟨b, 0, none⟩)] w fun e w' => e = .returned (.tuple #[]) ∧ Lib.IsBuilder 48 5 wt.heap.size wt.heap.size (Lib.byteCells (acc ++ Fil.rend G k d n)) w' ∧ Below wt.heap.size wt w' := by
  induction k with
  | zero => intro n b d acc w _ _ h1 h2; omega
  | succ k ih =>
    intro n b d acc w hb hlv hdk hd8 hib hbel hlen
    have IH := Aside0.mk ih
    have HT := Aside0.mk hT
    have HRD := Aside0.mk hRd
    have HI := Aside0.mk hib
    have HB := Aside0.mk hbel
    have HN := Aside0.mk hb
    have HLV := Aside0.mk hlv
    have HLEN := Aside0.mk hlen
    have HNL := Aside0.mk (hRd.2 n)
    have HDK := Aside0.mk hdk
    obtain ⟨A, c, ok, hc, hE⟩ := hT.at hb
    have hcw := (hbel.cell (World.block_lt_of_cell? wt _ hc)).trans hc
    have HE := Aside0.mk hE
    clear ih hT hRd hib hbel hb hlv hlen hE hc hdk
    go_enter Try.func34, Try.ntmps34
    go_wp2_with fail
    go_loopw [13] (fun v13 wr => ∃ i : Int, v13 = .int .i64 i ∧ Aside0 (0 ≤ i ∧ i ≤ (Fil.node G n).length) ∧ Aside0 (Lib.IsBuilder 48 5 wt.heap.size wt.heap.size (Lib.byteCells (acc ++ textTo G k d n i.toNat)) wr) ∧ Aside0 (Below wt.heap.size wt wr)) (fun v13 _ => (Fil.node G n).length - (intOf v13).toNat)
    case atStart => exact ⟨0, rfl, ⟨by omega⟩, ⟨by simpa [textTo] using HI.out⟩, HB⟩
    case round =>
      clear HI HB hcw
      obtain ⟨i, rfl, HIX, HI, HB⟩ := hrel
      obtain ⟨hi0, hi1⟩ := HIX.out
      have hnl : (Fil.node G n).length ≤ 8 := HNL.out
      by_cases hlt : i < (Fil.node G n).length
      · have hb1 : decide (i < ((Fil.node G n).length : Int)) = true := decide_eq_true hlt
        have g0 : decide ((0 : Int) ≤ i) = true := decide_eq_true hi0
        obtain ⟨ad, eb, cc, s, e0, he, hce, dd, hd, hh⟩ := HE.out.at i hi0 hlt
        subst e0
        obtain ⟨p0, p1⟩ := two_cells hh rfl rfl
        have hel := blk_lt hh
        have hcr := (HB.out.cell (World.block_lt_of_cell? wt _ hce)).trans hce
        have q0 := (HB.out.cell (p := ⟨eb, 0, none⟩) hel).trans p0
        have P1 := Aside0.mk p1
        have HEL := Aside0.mk hel
        have HSC := Aside0.mk (textTo_succ G k d n i.toNat (s, cc) he)
        have HRS := Aside0.mk (HRD.out.1 n s cc (List.mem_of_getElem? he))
        have HPR := Aside0.mk (textTo_pre G k d n (i.toNat + 1))
        have HDD := Aside0.mk hd
        clear p0 p1 hel he hd hh hce
        have hs40 : s.size ≤ 40 := HRS.out.2.2
        obtain ⟨rp, hrp⟩ : ∃ rp : ByteArray, rp = ⟨(Lib.repeatL (⟨#[32, 32]⟩ : ByteArray).data.toList d).toArray⟩ := ⟨_, rfl⟩
        have hrl : rp.data.toList = (List.replicate d [(32 : UInt8), 32]).flatten := by
          rw [hrp]
          show (Lib.repeatL [(32 : UInt8), 32] d).toArray.toList = _
          rw [List.toList_toArray, rep_flat]
        have hrz : rp.size ≤ 16 := by
          rw [size_list, hrl, rep_len]; omega
        have HRP := Aside0.mk hrp
        have HRL := Aside0.mk hrl
        clear hrp hrl
        have z1 : ¬ 9223372036854775807 < rp.size + s.size := by omega
        have z2 : rp.size + s.size ≤ 9223372036854775807 := by omega
        have z0 : (rp ++ s).size = rp.size + s.size := ByteArray.size_append
        have z3 : ¬ 9223372036854775807 < (rp ++ s).size + 1 := by omega
        have z4 : (rp ++ s).size + 1 ≤ 9223372036854775807 := by omega
        have z5 : ¬ 9223372036854775807 < rp.size + s.size + 1 := by omega
        have z6 : rp.size + s.size + 1 ≤ 9223372036854775807 := by omega
        go_wp2_with fail
        have hline : Lib.byteCells (acc ++ textTo G k d n i.toNat) ++ Lib.strCells (rp ++ s ++ (⟨#[10]⟩ : ByteArray)) = Lib.byteCells (acc ++ textTo G k d n i.toNat ++ Fil.line d s) := by
          rw [cells_more]
          congr 1
          congr 1
          rw [ByteArray.data_append, ByteArray.data_append, Array.toList_append, Array.toList_append, HRL.out]
          rfl
        have HLN := Aside0.mk hline
        have hs' : (rp ++ s ++ (⟨#[10]⟩ : ByteArray)).size ≤ 100 := by
          rw [ByteArray.size_append, z0]
          show rp.size + s.size + 1 ≤ 100
          omega
        have HS' := Aside0.mk hs'
        have hal : (acc ++ textTo G k d n i.toNat).length ≤ 100000000000000 := by
          have h1 := HLEN.out
          have h2 := textTo_pre G k d n i.toNat
          rw [List.length_append]
          omega
        have HAL := Aside0.mk hal
        clear hline hs' hal
        go_region_held3 (fun w' => w'.cell? ⟨eb, 0, none⟩ = some (.string s)) (first | go_keep | assumption) (first | (go_at_call 42; refine (Try.strings_Repeat (⟨#[32, 32]⟩ : ByteArray) d _ (by omega) (by show 2 * d ≤ _; omega)).mono ?_; rintro e w5 ⟨rfl, hb5⟩; rw [← HRP.out]; have q5 : w5.cell? ⟨eb, 0, none⟩ = some (.string s) := (hb5.cell (p := ⟨eb, 0, none⟩) (Nat.lt_of_lt_of_le HEL.out HB.out.size)).trans q0; have hb5' : Below wr.heap.size wr w5 := ⟨hb5.os, hb5.tape, hb5.output, hb5.size, hb5.block⟩; have H5 := Aside0.mk (isBuilder_below HI.out hb5'); have HB5 := Aside0.mk (HB.out.trans (hb5'.mono HB.out.size)); clear hb5 hb5') | (go_at_call 30; refine (ioWrite_calls _ _ _ _ _ H5.out (by have h1 := HAL.out; have h2 := HS'.out; rw [Lib.byteCells, List.length_map]; omega) HB5.out.size).mono ?_; rintro e w6 ⟨rfl, hat, hb6⟩; rw [HLN.out] at hat; have H6 := Aside0.mk (show Lib.IsBuilder 48 5 wt.heap.size wt.heap.size (Lib.byteCells (acc ++ textTo G k d n i.toNat ++ Fil.line d s)) w6 from .inr hat); have HB6 := Aside0.mk (HB5.out.trans hb6); have q6 : w6.cell? ⟨eb, 0, none⟩ = some (.string s) := (hb6.cell (p := ⟨eb, 0, none⟩) HEL.out).trans q5; have q7 : w6.cell? ⟨eb, 1, none⟩ = some (.pointer (some ⟨dd, 0, none⟩)) := (HB6.out.cell (p := ⟨eb, 1, none⟩) HEL.out).trans P1.out; clear hat hb6 HB5 H5))
        clear HS' HLN HAL z0 z1 z2 z3 z4 z5 z6
        have hih := IH.out cc dd (d + 1) (acc ++ textTo G k d n i.toNat ++ Fil.line d s) w6 HDD.out (by rw [HRS.out.1, HLV.out]) (by have := HDK.out; omega) (by have h1 := HRS.out.1; have h2 := HRS.out.2.1; have h3 := HLV.out; omega) H6.out HB6.out (by
          have h1 := HLEN.out
          have h2 := HPR.out
          rw [HSC.out] at h2
          simp only [List.length_append] at h2 ⊢
          omega)
        have HIH := Aside0.mk hih
        have hd9 : d + 1 ≤ 9 := by omega
        clear hih
        go_wp2_with fail
        refine HIH.out.mono ?_
        rintro e w7 ⟨rfl, hi7, hb7⟩
        have hap : acc ++ textTo G k d n i.toNat ++ Fil.line d s ++ Fil.rend G k (d + 1) cc = acc ++ textTo G k d n (i + 1).toNat := by
          rw [show (i + 1).toNat = i.toNat + 1 by omega, HSC.out]
          simp
        rw [hap] at hi7
        have H7 := Aside0.mk hi7
        have HB7 := Aside0.mk hb7
        clear hap hi7 hb7
        go_wp2
        go_roundw
        case rel => exact ⟨i + 1, rfl, ⟨by omega⟩, H7, HB7⟩
        case measure => simp [intOf]; omega
      · have hb1 : decide (i < ((Fil.node G n).length : Int)) = false := decide_eq_false hlt
        have hend : textTo G k d n i.toNat = Fil.rend G (k + 1) d n := by
          unfold textTo
          rw [List.take_of_length_le (by omega)]
          rfl
        have HEND := Aside0.mk hend
        clear hend
        go_wp2
        go_end0
        exact ⟨rfl, by rw [← HEND.out]; exact HI.out, HB.out⟩
/-- A filter's text, its levels told. -/
theorem string_calls (wt : World) (base b0 : Nat) (bs : List Nat) (G : List Fil.Nd) (lv : Nat → Nat) (hT : FTree wt base bs G) (h0 : bs[0]? = some b0) (hRd : Fil.Rd G lv) (hl0 : lv 0 = 0) :
    Calls Try.prog 26 #[.pointer (some ⟨b0, 0, none⟩)] wt fun e w' => e = .returned (.string ⟨(Fil.rend G 9 0 0).toArray⟩) ∧ Below wt.heap.size wt w' := by
  have hlen := Fil.rend_length hRd 9 0 (by omega)
  rw [hl0] at hlen
  have hmax : Fil.rendMax 9 ≤ 99999999999999 := by decide
  have HT := Aside0.mk hT
  have H0 := Aside0.mk h0
  have HRD := Aside0.mk hRd
  have HL := Aside0.mk (show ([] : List UInt8).length + (Fil.rend G 9 0 0).length ≤ 100000000000000 by simp; omega)
  clear hlen hmax hT h0 hRd
  go_enter Try.func26, Try.ntmps26
  go_wp2_with fail
  have hw1 : Below wt.heap.size wt (wt.alloc (Obj.cells #[Value.pointer none, Value.slice none 0 0] 48)) := below_alloc (Below.refl _ _) _
  have hib : Lib.IsBuilder 48 5 wt.heap.size wt.heap.size (Lib.byteCells []) (wt.alloc (Obj.cells #[Value.pointer none, Value.slice none 0 0] 48)) := .inl ⟨Nat.le_refl _, .slice none 0 0, heap_new wt _, ⟨rfl, .inl ⟨rfl, rfl⟩⟩, by simp [Value.ownBlock]⟩
  refine (fstr_calls wt base bs G lv HT.out HRD.out 9 0 b0 0 [] _ H0.out hl0 rfl (by omega) hib hw1 HL.out).mono ?_
  rintro e w1 ⟨rfl, hat, hb⟩
  rw [List.nil_append] at hat
  have H1 := Aside0.mk hat
  have HB1 := Aside0.mk hb
  clear hib hw1 hat hb
  go_wp2_with fail
  refine (Try.Builder_String_any wt.heap.size wt.heap.size _ w1 H1.out HB1.out.size).mono ?_
  rintro e w2 ⟨rfl, hb⟩
  have HB2 := Aside0.mk (HB1.out.trans hb)
  clear hb
  go_wp2
  go_ret
  exact ⟨rfl, HB2.out⟩
/-- What the filters must be for their text to be told. -/
def filOk (l : List (List ByteArray)) : Prop := l.length ≤ 1000 ∧ (∀ f ∈ l, f.length ≤ 1000) ∧ ∃ lv : Nat → Nat, Fil.Rd (Fil.buildA l) lv ∧ lv 0 = 0
def fil1 (f : List ByteArray) : Prop := f.length ≤ 8 ∧ ∀ s ∈ f, s.size ≤ 40 ∧ s ≠ Fil.ANY
instance (f : List ByteArray) : Decidable (fil1 f) := by unfold fil1; infer_instance
/-- Few, short filters of which none begins with another one. -/
def filChk (l : List (List ByteArray)) : Prop := l.length ≤ 8 ∧ (∀ f ∈ l, fil1 f) ∧ l.Pairwise (fun a b => ¬ a <+: b ∧ ¬ b <+: a)
instance (l : List (List ByteArray)) : Decidable (filChk l) := by unfold filChk; infer_instance
theorem tree (l : List (List ByteArray)) (hchk : filChk l) : filOk l ∧ (∀ f ∈ l, ∀ s ∈ f, s.data.toList <:+: Fil.rend (Fil.buildA l) 9 0 0) ∧ (Fil.rend (Fil.buildA l) 9 0 0).length ≤ 99999999999999   := by
  obtain ⟨h8, hf, hpw⟩ := hchk
  have h1 : ∀ n, Fil.node [[]] n = [] := fun n => by cases n <;> rfl
  have hI : Fil.Inv [[]] [[]] := { len := rfl, edge := fun n v c h => (by rw [h1 n] at h; cases h), uniq := fun n => (by rw [h1 n]; simp) }
  have hT0 : Fil.Tr [[]] [[]] [] 0 1 := { inv := hI, pos := by simp, root := rfl, pre := fun m hm h0 => (by simp at hm; omega), leaf := fun m hm h0 => (by simp at hm; omega), par := fun m hm h0 => (by simp at hm; omega), fan := fun m => (by
    rw [h1 m]
    refine ⟨by simp, fun h2 h3 => ?_⟩
    simp at h3
    subst h3
    simp at h2) }
  obtain ⟨p, d, hT, hh⟩ := Fil.tr_build l [[]] [[]] [] 1 hT0 (by simp) (fun f hfl v hv => ((hf f hfl).2 v hv).2) (by simp) hpw
  rw [List.append_nil] at hT hh
  have hF8 : l.reverse.length ≤ 8 := by rw [List.length_reverse]; exact h8
  have hpre : ∀ m, m < (Fil.buildA l).length → (p.getD m []).length ≤ 8 ∧ ∀ s ∈ p.getD m [], s.size ≤ 40 := by
    intro m hm
    by_cases h0 : m = 0
    · subst h0
      rw [hT.root]
      simp
    · obtain ⟨f, hfm, hp⟩ := hT.pre m hm h0
      have hfl := hf f (List.mem_reverse.1 hfm)
      exact ⟨Nat.le_trans hp.length_le hfl.1, fun s hs => (hfl.2 s (hp.subset hs)).1⟩
  have hRd : Fil.Rd (Fil.buildA l) (fun m => (p.getD m []).length) := by
    refine ⟨fun n v c hv => ?_, fun n => Nat.le_trans (hT.fan n).1 hF8⟩
    obtain ⟨_, hc, hpc, _⟩ := hT.inv.edge n v c hv
    have h2 := hpre c hc
    refine ⟨by dsimp only; rw [hpc, List.length_append]; rfl, h2.1, h2.2 v (by rw [hpc]; simp)⟩
  have hl0 : (fun m => (p.getD m []).length) 0 = 0 := by dsimp only; rw [hT.root]; rfl
  refine ⟨⟨by omega, fun f hfl => by have := (hf f hfl).1; omega, _, hRd, hl0⟩, fun f hfl s hs => ?_, ?_⟩
  · obtain ⟨c, hc, hpc⟩ := hh f (List.mem_reverse.2 hfl)
    have h3 := (Fil.rend_has hT (fun m hm => (hpre m hm).1) _ c hc rfl).2
    rw [hpc] at h3
    exact h3 s hs
  · have hl1 : (p.getD 0 []).length = 0 := hl0
    have h4 := Fil.rend_length hRd 9 0 (by show (p.getD 0 []).length ≤ 8; omega)
    rw [hl1] at h4
    have hmax : Fil.rendMax 9 ≤ 99999999999999 := by decide
    omega
def impl_FilterText.f (l : List (List ByteArray)) : Option ByteArray := if filChk l then some ⟨(Fil.rend (Fil.buildA l) 9 0 0).toArray⟩ else none
theorem impl_FilterText.calls (A0 : Option Addr) (c0 : Nat) (l0 : List (List ByteArray)) (r : ByteArray) (w : World) (hr0 : Kd.C (Kd.slice 9 Kd.string) w A0 l0.length l0) (hc0 : l0.length ≤ c0) (h : impl_FilterText.f l0 = some r) :
    Calls Try.prog 11 #[.slice A0 l0.length c0] w fun e w' => e = .returned (.string r) ∧ Below w.heap.size w w' := by
  unfold impl_FilterText.f at h
  split at h
  case isFalse => cases h
  case isTrue hok =>
    injection h with h
    obtain ⟨h1, h2, lv, h3, h4⟩ := (tree l0 hok).1
    have HR := Aside0.mk hr0
    have HX := Aside0.mk h2
    have HRD := Aside0.mk h3
    have E1 := Aside0.mk h
    clear hr0 h2 h3 h
    go_enter Try.func11, Try.ntmps11
    go_wp2_with fail
    refine (new_calls w A0 c0 l0 HR.out h1 HX.out).mono ?_
    rintro e w1 ⟨b0, bs, rfl, ht, _, hz, hb⟩
    have HT := Aside0.mk ht
    have HZ := Aside0.mk hz
    have HB := Aside0.mk hb
    clear ht hz hb
    go_wp2_with fail
    refine (string_calls w1 w.heap.size b0 bs _ lv HT.out HZ.out HRD.out h4).mono ?_
    rintro e w2 ⟨rfl, hb⟩
    have HB2 := Aside0.mk (HB.out.trans (hb.mono HB.out.size))
    clear hb
    go_wp2
    go_ret
    exact ⟨congrArg (fun z => Ending.returned (.string z)) E1.out, HB2.out⟩
end Go.Proofs.Ythecfligfhpccaa.P
