/- Names of parts of speech get numbers by a map: what adding, listing and POSIDs compute. -/
import Derived.Test.YtlhljldlbcgnoaaP0
import Derived.Maps.OwnSet
import Derived.Maps.RangeWalk
import Derived.Sort.KeysCollected
import Derived.WalkSpells
import Derived.Test.YtlhljldlbcgnoaaEPosP
import Derived.Test.YtlhljldlbcgnoaaXLaws
namespace Go.Proofs.Ytlhljldlbcgnoaa.P
open Go.RowKit Go.Proofs.YtlhljldlbcgnoaaW.PrintWords Go.Proofs.YtlhljldlbcgnoaaW.PrintLast Go.Proofs.YtlhljldlbcgnoaaW.PrintMore
open Go.Maps (Keyed string_keyed)
open Go.WideMaps Go.Proofs.Ytlhljldlbcgnoaa.X

theorem posLaw : Keyed Try.prog 9 := string_keyed Try.underlying9
theorem zero41 (w : World) : (zeroValue 41).run Try.prog w = .ok (.int .u16 0) w := by kernel_rfl

def keyL (s : ByteArray) : Lit := .string s.data.toList

/-- Block B is a map that gives names their numbers, from 1 on. -/
def PosMap (w : World) (B : Nat) (names : List ByteArray) : Prop :=
  ∃ D : DataW Unit, w.ownsMap Try.prog 9 (plainElem Try.prog 41) B names.length D ∧ Maps.size D = names.length ∧ (∀ s ∈ names, s.size ≤ 9223372036854775807) ∧
    (∀ s, s ∉ names → Maps.has D (keyL s) = false) ∧ ∀ (i : Nat) s, names[i]? = some s → Maps.has D (keyL s) = true ∧ ∀ z, D.atKey (keyL s) z = .lit (.int .u16 ((i : Int) + 1))

theorem keyL_inj {s t : ByteArray} (h : keyL s = keyL t) : s = t := by
  unfold keyL at h
  injection h with h
  cases s; cases t
  simpa using h

theorem PosMap.put {w w' : World} {B : Nat} {names : List ByteArray} {s : ByteArray} {D : DataW Unit} (h1 : w.ownsMap Try.prog 9 (plainElem Try.prog 41) B names.length D) (h2 : Maps.size D = names.length) (h3 : ∀ s ∈ names, s.size ≤ 9223372036854775807)
    (h4 : ∀ s, s ∉ names → Maps.has D (keyL s) = false) (h5 : ∀ (i : Nat) s, names[i]? = some s → Maps.has D (keyL s) = true ∧ ∀ z, D.atKey (keyL s) z = .lit (.int .u16 ((i : Int) + 1))) (hn : s ∉ names) (hs : s.size ≤ 9223372036854775807)
    (h : w'.ownsMap Try.prog 9 (plainElem Try.prog 41) B (names.length + 1) (D.put (keyL s) (.lit (.int .u16 ((names.length : Int) + 1))))) : PosMap w' B (names ++ [s]) := by
  have hT := h1.tidy posLaw
  have hk : WideAt.IsKeyLit (keyL s) := by unfold keyL; simp [WideAt.IsKeyLit]
  have hne : ∀ t, t ≠ s → keyL t ≠ keyL s := fun t ht e => ht (keyL_inj e)
  refine ⟨_, by simpa using h, ?_, ?_, ?_, ?_⟩
  · rw [Maps.size_put hT, h4 s hn]
    simp [h2]
  · intro t ht
    rcases List.mem_append.1 ht with ht | ht
    · exact h3 t ht
    · rw [List.mem_singleton.1 ht]; exact hs
  · intro t ht
    have ht1 : t ∉ names := fun h => ht (List.mem_append_left _ h)
    have ht2 : t ≠ s := fun e => ht (by rw [e]; simp)
    rw [Maps.has_put_other (hne t ht2)]
    exact h4 t ht1
  · intro i t ht
    rcases Nat.lt_or_ge i names.length with hi | hi
    · rw [List.getElem?_append_left hi] at ht
      have ht2 : t ≠ s := fun e => hn (by rw [← e]; exact List.mem_of_getElem? ht)
      obtain ⟨a, b⟩ := h5 i t ht
      exact ⟨by rw [Maps.has_put_other (hne t ht2)]; exact a, fun z => by rw [Maps.atKey_put_other (hne t ht2)]; exact b z⟩
    · have hi2 : i = names.length := by
        have := (List.getElem?_eq_some_iff.1 ht).1
        simp at this; omega
      subst hi2
      have : s = t := by simpa using ht
      subst this
      exact ⟨Maps.has_put_same hT.isMap hk _, fun z => Maps.atKey_put_same hT.isMap hk _ _⟩

set_option maxHeartbeats 1000000 in
theorem pos_add_old (w : World) (B : Nat) (names : List ByteArray) (i : Nat) (s : ByteArray) (hm : PosMap w B names) (hi : names[i]? = some s) :
    Calls Try.prog 25 #[.map (some B), .string s] w fun e w' => e = .returned (.int .u16 ((i : Int) + 1)) ∧ w = w' := by
  obtain ⟨D, hown, hsz, hb, hno, hyes⟩ := hm
  obtain ⟨hhas, hatk⟩ := hyes i s hi
  have hsl := hb s (List.mem_of_getElem? hi)
  have hkey := keyOf_string_mk (P := Try.prog) (k := 9) Try.underlying9 (s := s) hsl
  clear hno hyes hb hi
  unfold keyL at hhas hatk
  have HA := Aside0.mk hatk
  have HS := Aside0.mk hsz
  clear hatk hsz hsl
  go_enter Try.func25, Try.ntmps25
  go_wp2_with (first | (at_lookup; refine wpList_lookup_own_ok_int _ rfl _ _ 36 rfl 9 41 .u16 posLaw Try.underlying36 Try.underlying41 (zero41 _) B names.length D rfl hown _ _ rfl hkey ?_; intro c hat hwc; rw [HA.out] at hat; obtain rfl : (i : Int) + 1 = c := by (injection hat with hat; injection hat)))
  go_ret
  exact ⟨rfl, rfl⟩

set_option maxHeartbeats 1000000 in
theorem pos_add_new (w : World) (B : Nat) (names : List ByteArray) (s : ByteArray) (hm : PosMap w B names) (hs : s.size ≤ 9223372036854775807) (hn : s ∉ names) (hl : names.length < 60000) :
    Calls Try.prog 25 #[.map (some B), .string s] w fun e w' => e = .returned (.int .u16 ((names.length : Int) + 1)) ∧ PosMap w' B (names ++ [s]) ∧ w.grownBy w' (some B) := by
  obtain ⟨D, hown, hsz, hb, hno, hyes⟩ := hm
  have hhas := hno s hn
  have hkey := keyOf_string_mk (P := Try.prog) (k := 9) Try.underlying9 (s := s) hs
  have HP := Aside0.mk (fun (w' : World) => PosMap.put (w' := w') hown hsz hb hno hyes hn hs)
  clear hno hyes hb hn hs
  unfold keyL at hhas
  have h1 : decide (65535 < names.length) = false := decide_eq_false (by omega)
  have h2 : decide ((65535 : Int) < (names.length : Int)) = false := decide_eq_false (by omega)
  have h3 : IntKind.u16.wrap (names.length : Int) = (names.length : Int) := by simp [IntKind.wrap, IntKind.signed, IntKind.bits]; omega
  have h4 : IntKind.u16.wrap ((names.length : Int) + 1) = (names.length : Int) + 1 := by simp [IntKind.wrap, IntKind.signed, IntKind.bits]; omega
  have wf : (Lit.int .u16 ((names.length : Int) + 1)).wf = true := by simp [Lit.wf, IntKind.min, IntKind.max, IntKind.signed, IntKind.bits]; omega
  have hl2 : names.length < maxLen := by unfold maxLen; omega
  have WF := Aside0.mk wf
  have HL := Aside0.mk hl2
  clear wf hl2 hl
  go_enter Try.func25, Try.ntmps25
  go_wp2_with (first | (at_lookup; refine wpList_lookup_own_ok_int _ rfl _ _ 36 rfl 9 41 .u16 posLaw Try.underlying36 Try.underlying41 (zero41 _) B names.length D rfl hown _ _ rfl hkey ?_; intro c hat hwc; clear hat hwc) | (at_len; refine wpList_len_own _ rfl _ 36 rfl 9 41 Try.underlying36 (plainElem Try.prog 41) B names.length D rfl hown ?_) | (at_mapUpdate; refine wpList_mapUpdate_own _ rfl _ _ _ 36 rfl 9 41 posLaw Try.underlying36 _ B names.length _ rfl hown HL.out _ _ _ rfl rfl hkey _ [] (plainElem_int Try.underlying41 WF.out) ?_; intro w1 hown1 hgrow1))
  go_ret
  exact ⟨rfl, HP.out _ hown1, hgrow1⟩

theorem info41 : (Try.prog.info? 41).map (fun i => (i.zero, i.size, i.bytes)) = some (some (.int .u16 0), 1, 2) := by kernel_rfl
theorem ret_u16 {a b : Int} (h : a = b) : Ending.returned (.int .u16 a) = .returned (.int .u16 b) := by rw [h]

theorem pos_add (w : World) (B : Nat) (names : List ByteArray) (s : ByteArray) (hm : PosMap w B names) (hs : s.size ≤ 9223372036854775807) (hl : (Pos.step names s).length ≤ 60000) :
    Calls Try.prog 25 #[.map (some B), .string s] w fun e w' => e = .returned (.int .u16 (Pos.num (Pos.step names s) s)) ∧ PosMap w' B (Pos.step names s) ∧ w.grownBy w' (some B) := by
  by_cases hn : s ∈ names
  · rw [Pos.num_old hn] at hl ⊢
    refine (pos_add_old w B names _ s hm (Pos.get_num hn)).mono ?_
    rintro e w' ⟨rfl, rfl⟩
    exact ⟨rfl, hm, World.grownBy.refl _ _⟩
  · have hlt : names.length < 60000 := by
      unfold Pos.step at hl
      rw [if_neg hn] at hl
      simp at hl
      omega
    refine (pos_add_new w B names s hm hs hn hlt).mono ?_
    rintro e w' ⟨rfl, h1, h2⟩
    refine ⟨ret_u16 (by rw [Pos.num_new hn]), ?_, h2⟩
    unfold Pos.step
    rw [if_neg hn]
    exact h1

theorem PosMap.map_at {w : World} {B : Nat} {names : List ByteArray} (h : PosMap w B names) : ∃ es c, w.heap[B]? = some (.map es c) := by
  obtain ⟨D, ⟨es, c, h, _⟩, _⟩ := h
  exact ⟨es, c, h⟩
theorem PosMap.lt {w : World} {B : Nat} {names : List ByteArray} (h : PosMap w B names) : B < w.heap.size := by
  obtain ⟨D, h, _⟩ := h
  exact h.lt
theorem PosMap.kept {w w' : World} {B : Nat} {names : List ByteArray} {row : Option Nat} (h : PosMap w B names) (hg : w.grownBy w' row) (hne : some B ≠ row) : PosMap w' B names := by
  obtain ⟨D, h, r⟩ := h
  exact ⟨D, h.kept hg hne, r⟩
set_option maxHeartbeats 2000000 in
theorem pos_Add (w : World) (B : Nat) (names : List ByteArray) (A : Option Addr) (c : Nat) (x : List ByteArray) (hm : PosMap w B names) (hr : Kd.C Kd.string w A x.length x) (hc : x.length ≤ c) (hsz : ∀ s ∈ x, s.size ≤ 9223372036854775807)
    (hl : (Pos.fold names x).length ≤ 60000) (hx : x.length ≤ 1000000) :
    Calls Try.prog 19 #[.map (some B), .slice A x.length c] w fun e w' => ∃ v : Value, e = .returned v ∧ Kd.R (Kd.int .u16) 41 w' w.heap.size (fun _ => True) v (x.map (Pos.num (Pos.fold names x))) ∧ PosMap w' B (Pos.fold names x) ∧ w.grownBy w' (some B) := by
  have HR := Aside0.mk hr
  have HC := Aside0.mk hc
  have HM := Aside0.mk hm
  have HMA := Aside0.mk hm.map_at
  have HLT := Aside0.mk hm.lt
  have HZ := Aside0.mk hsz
  have HL := Aside0.mk hl
  have HX := Aside0.mk hx
  clear hr hc hm hsz hl hx
  go_enter Try.func19, Try.ntmps19
  go_wp2_with (at_make; refine R_make0 (Kd.int .u16) (w0 := w) w.heap.size 41 rfl 38 _ _ rfl rfl (x.length : Int) rfl Try.underlying38 (.int .u16 0) 2 info41 (ok := fun _ => True) (by omega) ?hl ?hm trivial (Below.refl _ _) (Nat.le_refl _) ?_; (case hl => have := HX.out; omega); (case hm => have := HX.out; omega); intro v0 w1 hr0 _ hg0 _; have HR0 := Aside0.mk hr0; have HG0 := Aside0.mk hg0; clear hr0 hg0)
  go_loopw [5, 14] (fun v5 v14 wr => ∃ i : Nat, v14 = .int .i64 i ∧ Aside0 (i ≤ x.length) ∧ Aside0 (Kd.R (Kd.int .u16) 41 wr w.heap.size (fun _ => True) v5 ((x.take i).map (Pos.num (Pos.fold names x)))) ∧ Aside0 (PosMap wr B (Pos.fold names (x.take i))) ∧ Aside0 (w.grownBy wr (some B))) (fun _ v14 _ => x.length - (intOf v14).toNat)
  case atStart => exact ⟨0, rfl, ⟨Nat.zero_le _⟩, ⟨by simpa using HR0.out⟩, ⟨HM.out.kept HG0.out (by simp)⟩, ⟨HG0.out.but _⟩⟩
  case round =>
    obtain ⟨i, rfl, HI, HRi, HMi, HGi⟩ := hrel
    have hxx := HX.out
    by_cases hlt : i < x.length
    · have hb1 : decide (i < x.length) = true := decide_eq_true hlt
      have hb2 : decide ((i : Int) < (x.length : Int)) = true := decide_eq_true (by omega)
      obtain ⟨ad, ead, hcell⟩ := Kd.at_string HR.out (i : Int) (by omega) (by omega)
      subst ead
      have hcell2 := grown_cell HMA.out HGi.out hcell
      simp only [Int.toNat_natCast] at hcell2
      have hsx : rdOf ByteArray.empty x (i : Int) = x[i] := by simp [rdOf, hlt]
      rw [hsx] at hcell2
      have hmem : x[i] ∈ x := List.getElem_mem hlt
      have hft := Pos.fold_take names x i hlt
      have hpre := Pos.fold_take_pre names x (i + 1)
      have HK := Aside0.mk (pos_add wr B _ x[i] HMi.out (HZ.out _ hmem) (by have := HL.out; rw [← hft]; exact Nat.le_trans hpre.length_le this))
      have HN := Aside0.mk (show Pos.num (Pos.step (Pos.fold names (x.take i)) x[i]) x[i] = Pos.num (Pos.fold names x) x[i] by rw [← hft]; exact (Pos.num_pre hpre (by rw [hft]; exact Pos.mem_step _ _)).symm)
      have HT := Aside0.mk (show (x.take (i + 1)).map (Pos.num (Pos.fold names x)) = (x.take i).map (Pos.num (Pos.fold names x)) ++ [Pos.num (Pos.fold names x) x[i]] by rw [List.take_succ_eq_append_getElem hlt, List.map_append, List.map_cons, List.map_nil])
      have HF := Aside0.mk hft
      clear hft hpre hmem hsx hcell
      generalize x[i] = s at *
      have g1 : decide ((0 : Int) ≤ (i : Int)) = true := decide_eq_true (by omega)
      go_wp2_with fail
      refine HK.out.mono ?_
      rintro e w2 ⟨rfl, hm2, hg2⟩
      rw [HN.out]
      have hr2 := R_grown_lt HRi.out hg2 HLT.out
      have HR2 := Aside0.mk hr2
      have HM2 := Aside0.mk hm2
      have HG2 := Aside0.mk (HGi.out.trans hg2)
      clear hr2 hm2 hg2 hcell2
      generalize Pos.num (Pos.fold names x) s = q at *
      go_wp2_with (at_builtin; refine Kd.R_append (Kd.int .u16) (w0 := w2) w.heap.size rfl (.tmp 21) (.tmp 23) 38 41 (.int .u16 0) 2 rfl Try.underlying38 info41 rfl (by decide) (by omega) u5 ((x.take i).map (Pos.num (Pos.fold names x))) q [.int .u16 q] (fun _ => True) (fun _ => False) rfl rfl ?aP (fun _ hk => hk.elim) ?aF ?aO ?aB ?aS ?aL ?_; (case aP => exact rfl); (case aF => exact fun _ _ => trivial); (case aO => exact HR2.out); (case aB => exact Below.refl _ _); (case aS => exact HG2.out.size); (case aL => have := HX.out; simp; omega); intro v1 w3 hr3 _ hg3 hat3; rw [← HT.out] at hr3; have HR3 := Aside0.mk hr3; have HM3 := Aside0.mk (HM2.out.kept hg3 (by intro e; have := Kd.R_bound HR2.out; have h2 := this.1 B e.symm; have := HLT.out; omega)); have HG3 := Aside0.mk (HG2.out.andThen hg3 (fun j hj => .inl (by have := Kd.R_bound HR2.out; have h2 := this.1 j hj; omega))); clear hr3 hg3 hat3)
      go_roundw
      case rel => exact ⟨i + 1, by go_num, ⟨by omega⟩, HR3, by rw [HF.out]; exact HM3, HG3⟩
      case measure => simp [intOf]; omega
    · have hb1 : decide (i < x.length) = false := decide_eq_false hlt
      have hb2 : decide ((i : Int) < (x.length : Int)) = false := decide_eq_false (by omega)
      have hi : i = x.length := by have := HI.out; omega
      have ht : x.take i = x := by rw [hi, List.take_length]
      have h1 := HRi.out
      have h2 := HMi.out
      rw [ht] at h1 h2
      have H1 := Aside0.mk h1
      have H2 := Aside0.mk h2
      clear h1 h2 ht hi
      go_wp2
      go_ret
      exact ⟨u5, rfl, H1.out, H2.out, HGi.out⟩

end Go.Proofs.Ytlhljldlbcgnoaa.P
