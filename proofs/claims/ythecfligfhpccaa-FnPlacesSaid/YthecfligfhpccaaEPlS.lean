/- impl.PlacesSorted: the walk. -/
import Derived.Test.YthecfligfhpccaaEPlc
import Derived.Maps.RangeWalk
set_option linter.unusedVariables false
namespace Go.Proofs.Ythecfligfhpccaa.Li
open Go.RowKit Go.Proofs.YthecfligfhpccaaW.PrintWords Go.Proofs.YthecfligfhpccaaW.PrintLast Go.Proofs.YthecfligfhpccaaW.PrintMore Go.Proofs.Ythecfligfhpccaa.Gn
/-! ### Sorted keys, plain -/
def insB (s : ByteArray) : List ByteArray → List ByteArray
  | [] => [s]
  | x :: l => if x.data.toList < s.data.toList then x :: insB s l else s :: x :: l
def isort (l : List ByteArray) : List ByteArray := l.foldl (fun a s => insB s a) []
theorem insB_perm (s : ByteArray) : ∀ l, (insB s l).Perm (s :: l)
  | [] => List.Perm.refl _
  | x :: l => by
    unfold insB
    split
    · exact ((insB_perm s l).cons x).trans (List.Perm.swap s x l)
    · exact List.Perm.refl _
theorem isort_perm_go : ∀ (l a : List ByteArray), (l.foldl (fun a s => insB s a) a).Perm (a ++ l)
  | [], a => by simp
  | s :: l, a => by
    rw [List.foldl_cons]
    refine (isort_perm_go l (insB s a)).trans ?_
    refine ((insB_perm s a).append_right l).trans ?_
    exact (List.perm_middle (a := s) (l₁ := a) (l₂ := l)).symm
theorem isort_perm (l : List ByteArray) : (isort l).Perm l := by have := isort_perm_go l []; rw [List.nil_append] at this; exact this
theorem insB_srt (s : ByteArray) : ∀ {l : List ByteArray}, Da.Srt l → Da.Srt (insB s l)
  | [], _ => by unfold insB Da.Srt; simp
  | x :: l, h => by
    unfold Da.Srt at h
    rw [List.pairwise_cons] at h
    unfold insB
    split
    · rename_i hlt
      unfold Da.Srt
      rw [List.pairwise_cons]
      refine ⟨fun y hy => ?_, insB_srt s h.2⟩
      rcases List.mem_cons.1 ((insB_perm s l).mem_iff.1 hy) with e | e
      · subst e; exact Std.le_of_lt hlt
      · exact h.1 y e
    · rename_i hlt
      have hle : s.data.toList ≤ x.data.toList := Std.not_lt.1 hlt
      unfold Da.Srt
      rw [List.pairwise_cons]
      refine ⟨fun y hy => ?_, List.pairwise_cons.2 h⟩
      rcases List.mem_cons.1 hy with e | e
      · subst e; exact hle
      · exact Std.le_trans hle (h.1 y e)
theorem isort_srt (l : List ByteArray) : Da.Srt (isort l) := by
  have key : ∀ (l a : List ByteArray), Da.Srt a → Da.Srt (l.foldl (fun a s => insB s a) a) := by
    intro l
    induction l with
    | nil => intro a h; exact h
    | cons s l ih => intro a h; rw [List.foldl_cons]; exact ih _ (insB_srt s h)
  exact key l [] (by unfold Da.Srt; simp)
theorem bytes_ext {a b : ByteArray} (h : a.data.toList = b.data.toList) : a = b := by
  cases a with | mk a => cases b with | mk b => simpa using h
theorem srt_unique : ∀ {a b : List ByteArray}, Da.Srt a → Da.Srt b → a.Perm b → a = b
  | [], b, _, _, h => by rw [List.nil_perm] at h; exact h.symm
  | x :: a, [], _, _, h => by rw [List.perm_nil] at h; cases h
  | x :: a, y :: b, ha, hb, h => by
    unfold Da.Srt at ha hb
    rw [List.pairwise_cons] at ha hb
    have hxy : x = y := by
      apply bytes_ext
      apply Std.le_antisymm
      · rcases List.mem_cons.1 (h.symm.mem_iff.1 (List.mem_cons_self (a := y) (l := b))) with e | e
        · rw [e]; exact Std.le_refl _
        · exact ha.1 y e
      · rcases List.mem_cons.1 (h.mem_iff.1 (List.mem_cons_self (a := x) (l := a))) with e | e
        · rw [e]; exact Std.le_refl _
        · exact hb.1 x e
    subst hxy
    rw [srt_unique ha.2 hb.2 (List.perm_cons x |>.1 h)]
end Go.Proofs.Ythecfligfhpccaa.Li
namespace Go.Proofs.Ythecfligfhpccaa.Li
open Go.RowKit Go.Proofs.YthecfligfhpccaaW.PrintWords Go.Proofs.YthecfligfhpccaaW.PrintLast Go.Proofs.YthecfligfhpccaaW.PrintMore Go.Proofs.Ythecfligfhpccaa.Gn
theorem infoS : (Try.prog.info? 9).map (fun i => (i.zero, i.size, i.bytes)) = some (some (.string ⟨#[]⟩), 1, 16) := by kernel_rfl
def PsPost (D : List (ByteArray × List Int)) (w : World) (e : Ending) (w' : World) : Prop :=
  ∃ v, e = .returned v ∧ Kd.R Kd.string 9 w' w.heap.size (fun _ => True) v (isort (D.map (·.1))) ∧ Below w.heap.size w w'
theorem foldM_len (s : List Int) (kw : List ByteArray) : (foldM s kw).length ≤ kw.length := by
  have h0 : ∀ (D : List (ByteArray × List Int)) (p : ByteArray) (v : List Int), (putM D p v).length ≤ D.length + 1 ∧ ((getM D p).isSome → (putM D p v).length = D.length) := by
    intro D
    induction D with
    | nil => intro p v; simp [putM, getM]
    | cons q D ih =>
      intro p v
      unfold putM getM
      by_cases e : q.1 = p
      · rw [if_pos e, if_pos e]; simp
      · rw [if_neg e, if_neg e]; have := ih p v; simp only [List.length_cons]; exact ⟨by omega, fun h => by rw [this.2 h]⟩
  have h1 : ∀ (p : ByteArray) (ms : List Int) (D : List (ByteArray × List Int)), (getM D p).isSome → (addAll D p ms).length = D.length := by
    intro p ms
    induction ms with
    | nil => intro D _; rfl
    | cons m ms ih =>
      intro D h
      show (addAll (addM D p m) p ms).length = _
      rw [ih (addM D p m) (by unfold addM; rw [getM_putM, if_pos rfl]; rfl)]
      exact (h0 D p _).2 h
  have h2 : ∀ (p : ByteArray) (ms : List Int) (D : List (ByteArray × List Int)), (addAll D p ms).length ≤ D.length + 1 := by
    intro p ms D
    cases ms with
    | nil => exact Nat.le_succ _
    | cons m ms =>
      show (addAll (addM D p m) p ms).length ≤ _
      rw [h1 p ms (addM D p m) (by unfold addM; rw [getM_putM, if_pos rfl]; rfl)]
      exact (h0 D p _).1
  have h3 : ∀ (kw : List ByteArray) (D : List (ByteArray × List Int)), (kw.foldl (fun D p => addAll D p (occs s (bytesOf p))) D).length ≤ D.length + kw.length := by
    intro kw
    induction kw with
    | nil => intro D; exact Nat.le_refl _
    | cons p kw ih => intro D; rw [List.foldl_cons, List.length_cons]; have := ih (addAll D p (occs s (bytesOf p))); have := h2 p (occs s (bytesOf p)) D; omega
  simpa [foldM] using h3 kw []
def lenOf (n : Nat) : Value → Nat
  | .slice _ k _ => n - k
  | _ => 0
set_option maxHeartbeats 2000000 in
set_option maxRecDepth 100000 in
theorem placesSorted_calls (w : World) (x : ByteArray) (A1 : Option Addr) (c1 : Nat) (kw : List ByteArray) (hr1 : Kd.C Kd.string w A1 kw.length kw) (hc1 : kw.length ≤ c1)
    (hl : x.size ≤ 1000) (hk : kw.length ≤ 1000) (hne : ∀ p ∈ kw, 1 ≤ p.size ∧ p.size ≤ 1000) :
    Calls Try.prog 21 #[.string x, .slice A1 kw.length c1] w (PsPost (foldM (bytesOf x) kw) w) := by
  have hbz := print_bytes (P := Try.prog) 9 46 5 Try.underlying9 Try.underlying46 Try.underlying5 x
  have hc0 := bytesWorld_chg w 5 x
  have hbl : (bytesOf x).length = x.size := bytesOf_length x
  have hfa := findAll_calls (Lib.bytesWorld w 5 x) (some ⟨w.heap.size, 0, none⟩) A1 (grownCap w x.size 0 5) c1 (bytesOf x) kw (by rw [hbl]; exact bytesWorld_C w 5 x (by omega)) (by rw [hbl]; exact grownCap_ge _ _ _ _) (Kd.C_below hr1 (hc0.toBelow (Nat.le_refl _) (by simp))) hc1 (by_bytes x) (by omega) hk hne
  rw [hbl] at hfa
  have HFA := Aside0.mk hfa
  have HC0 := Aside0.mk hc0
  have hdl := foldM_len (bytesOf x) kw
  obtain ⟨D, hD⟩ : ∃ D, D = foldM (bytesOf x) kw := ⟨_, rfl⟩
  rw [← hD] at hdl
  have HDL : Aside0 (D.length ≤ 1000) := ⟨by omega⟩
  have HD := Aside0.mk hD
  rw [← hD]
  clear hfa hr1 hc0 hbl hl hne hc1 hD hdl
  go_enter Try.func21, Try.ntmps21
  go_upto_region 2 with fail
  go_wp2_with (first | (go_at_call 28; refine HFA.out.mono ?_; rintro e w1 ⟨r, S, rfl, ho⟩; rw [← HD.out] at ho; have HO := Aside0.mk ho; have HB1 : Aside0 (Below w.heap.size w w1) := ⟨(HC0.out.trans ho.chg).toBelow (Nat.le_refl _) (by simp)⟩; clear ho HFA HC0) | (at_range; refine wpList_rangeB rfl _ _ rfl rfl HO.out.mp Try.underlying59 ?_; intro w2 hr2 hc2 hz2; have HR2 := Aside0.mk hr2; have HC2 := Aside0.mk hc2; have HZ2 := Aside0.mk hz2; clear hr2 hc2 hz2))
  clear hbz HD
  go_frame
  have HRR : Aside0 (r < w1.heap.size) := ⟨HO.out.mp.lt⟩
  have HSL : Aside0 (S.length = D.length) := ⟨by have := congrArg List.length HO.out.keys; simpa using this⟩
  have hw12 : Aside0 (Below w.heap.size w w2) := ⟨HB1.out.trans ((HC2.out.toBelow (Nat.le_refl _) (by simp)).mono HB1.out.size)⟩
  go_loopw [5] (fun v5 wr => ∃ done : List ByteArray, Aside0 (Ranged wr w1.heap.size r Value.string S done) ∧ Aside0 (ORow wr 9 v5 (done.map Value.string)) ∧ Aside0 (∀ g, v5.ownBlock = some g → w2.heap.size ≤ g) ∧ Aside0 (Chg [w1.heap.size] w2 wr)) (fun v5 wr => lenOf S.length v5)
  case atStart => exact ⟨[], HR2, ⟨ORow.nil _ _⟩, ⟨fun g hg => by cases hg⟩, ⟨Chg.refl _ _⟩⟩
  case round =>
    obtain ⟨done, HR, HV, HG, HC⟩ := hrel
    obtain ⟨A5, c5, e5, hc5, hA5, _⟩ := HV.out.slice
    have hdl : (done.map Value.string).length = done.length := List.length_map _
    rw [hdl] at e5 hc5
    subst e5
    rcases HR.out.next (P := Try.prog) (by have := HRR.out; omega) 0 with ⟨hrun, hp⟩ | ⟨k, v, w3, hkv, hrun, hr3, hc3, hz3, hdn, hent⟩
    · have HP := Aside0.mk hp
      have HWR : Aside0 (Below w.heap.size w wr) := ⟨hw12.out.trans ((HC.out.toBelow (B := w1.heap.size) (by have := HZ2.out; omega) (by simp)).mono HB1.out.size)⟩
      clear hp
      have hkeys : done.Perm (D.map (·.1)) := by
        have h1 := HP.out
        rw [← HO.out.keys]
        have h2 : (S.map fun p => Value.string p.1) = (S.map (·.1)).map Value.string := by rw [List.map_map]; rfl
        rw [h2] at h1
        have h3 := h1.map (fun v : Value => match v with | .string s => s | _ => ByteArray.empty)
        rw [List.map_map, List.map_map] at h3
        have e : ((fun v : Value => match v with | .string s => s | _ => ByteArray.empty) ∘ Value.string) = id := rfl
        rw [e, List.map_id, List.map_id] at h3
        exact h3
      have HKY := Aside0.mk hkeys
      have hlen : done.length ≤ 1000 := by have := hkeys.length_eq; rw [List.length_map] at this; have := HDL.out; omega
      clear hkeys
      by_cases h0 : done = []
      · subst h0
        have HE : Aside0 (D.map (·.1) = []) := ⟨List.nil_perm.1 HKY.out⟩
        go_wp2_with fail
        refine (Try.sort_Strings_none _ _ _).mono ?_
        rintro e w9 ⟨rfl, rfl⟩
        go_wp2_with fail
        go_ret
        refine ⟨_, rfl, ?_, HWR.out⟩
        rw [HE.out]
        exact R_of_row (enc := Value.string) (xs := []) HV.out (fun g hg => ⟨by have a := HG.out g hg; have b := hw12.out.size; omega, trivial⟩)
      · obtain ⟨g, rfl⟩ := hA5 (fun e => h0 (List.map_eq_nil_iff.1 e))
        have hsrt := sort_any wr g c5 done HV.out (by omega)
        have HSRT := Aside0.mk hsrt
        have hgg : w2.heap.size ≤ g := HG.out g rfl
        clear hsrt
        go_wp2_with fail
        refine HSRT.out.mono ?_
        rintro e w9 ⟨rfl, ks, hks, hss, hrow, hc9⟩
        have HKS : Aside0 (ks = isort (D.map (·.1))) := ⟨srt_unique hss (isort_srt _) (hks.trans (HKY.out.trans (isort_perm _).symm))⟩
        have HKL : Aside0 (ks.length = done.length) := ⟨hks.length_eq⟩
        have HROW := Aside0.mk hrow
        have hsz : w.heap.size ≤ wr.heap.size := HWR.out.size
        have HB9 : Aside0 (Below w.heap.size w w9) := ⟨HWR.out.trans (hc9.toBelow hsz (by intro k hk; rw [List.mem_singleton.1 hk]; have := hw12.out.size; omega))⟩
        clear hks hss hrow hc9
        go_wp2_with fail
        go_ret
        refine ⟨_, rfl, ?_, HB9.out⟩
        rw [← HKS.out, ← HKL.out]
        exact R_of_row (enc := Value.string) HROW.out (fun q hq => ⟨by have a : g = q := (by injection hq); have b := hw12.out.size; omega, trivial⟩)
    · have hne : w1.heap.size ∉ ([] : List Nat) := by simp
      have hc3' : Chg [w1.heap.size] w2 w3 := HC.out.trans hc3
      have HR3 := Aside0.mk hr3
      have HC3 := Aside0.mk hc3'
      have hg5 : ∀ g, (Value.slice A5 done.length c5).ownBlock = some g → g ∉ [w1.heap.size] := fun g hg => by have := HG.out g hg; have := HZ2.out; simp; omega
      have HV3 := Aside0.mk (HV.out.chg hc3 hg5)
      have HDN : Aside0 (done.length < S.length) := ⟨hdn⟩
      have HLE : Aside0 (done.length ≤ 1000) := ⟨by have := HSL.out; have := HDL.out; omega⟩
      have hSL : done.length < S.length := hdn
      clear hr3 hc3 hc3' hkv hz3 hdn hg5 hc5 hne
      go_wp2_with (at_builtin; refine wpList_append1 rfl _ _ 26 rfl 9 (.string ⟨#[]⟩) 16 Try.underlying26 infoS rfl (.slice A5 done.length c5) (done.map Value.string) rfl (HV3.out.chg ((Chg.refl [] w3).alloc _) (by simp)) w3.heap.size (.string k) rfl (by simp) rfl (by rw [List.length_map]; have := HLE.out; omega) (by rw [List.length_map]; unfold maxLen; have := HLE.out; omega) ?_; intro v5 w5 hr5 hc5 ho5; have HR5 := Aside0.mk hr5; have HC5 := Aside0.mk hc5; have HO5 := Aside0.mk ho5; clear hr5 hc5 ho5)
      have hgT : ∀ i, i ∈ (Value.slice A5 done.length c5).ownBlock.toList → w2.heap.size ≤ i := fun i hi => HG.out i (by simpa using hi)
      have hz2 := HZ2.out
      have hrr := HRR.out
      have hz3 : w2.heap.size ≤ w3.heap.size := HC3.out.size
      have hrow : ORow w5 9 v5 ((done ++ [k]).map Value.string) := by rw [List.map_append]; exact HR5.out
      obtain ⟨A6, c6, e6, _⟩ := hrow.slice
      refine ⟨⟨done ++ [k], ⟨(HR3.out.chg ((Chg.refl [] w3).alloc _) (by simp) (by simp)).chg HC5.out (fun h => by have := hgT _ h; omega) (fun h => by have := hgT _ h; omega)⟩, ⟨hrow⟩, ⟨fun g hg => ?_⟩, ⟨(HC3.out.alloc _).above HC5.out (fun i hi => .inr (hgT i hi))⟩⟩, ?_⟩
      · rcases HO5.out with q | q
        · exact HG.out g (by rw [← q]; exact hg)
        · rw [hg] at q
          have : g = _ := (by injection q)
          rw [this, size_alloc]; omega
      · rw [e6]
        show S.length - _ < S.length - done.length
        rw [List.length_map, List.length_append, List.length_singleton]
        omega
end Go.Proofs.Ythecfligfhpccaa.Li
namespace Go.Proofs.Ythecfligfhpccaa.P
open Go.RowKit Go.Proofs.YthecfligfhpccaaW.PrintWords Go.Proofs.YthecfligfhpccaaW.PrintLast Go.Proofs.YthecfligfhpccaaW.PrintMore Go.Proofs.Ythecfligfhpccaa.Gn Go.Proofs.Ythecfligfhpccaa.Li
def goodPl (x : ByteArray) (kw : List ByteArray) : Prop := x.size ≤ 1000 ∧ kw.length ≤ 1000 ∧ ∀ p ∈ kw, 1 ≤ p.size ∧ p.size ≤ 1000
instance (x : ByteArray) (kw : List ByteArray) : Decidable (goodPl x kw) := by unfold goodPl; exact inferInstance
def impl_Places.f (x : ByteArray) (kw : List ByteArray) : Option (List (List Int)) := if goodPl x kw then some (placesOf (foldM (bytesOf x) kw) kw) else none
def impl_PlacesSorted.f (x : ByteArray) (kw : List ByteArray) : Option (List ByteArray) := if goodPl x kw then some (isort ((foldM (bytesOf x) kw).map (·.1))) else none
theorem impl_Places.calls (x : ByteArray) (A1 : Option Addr) (c1 : Nat) (kw : List ByteArray) (r : List (List Int)) (w : World) (hr1 : Kd.C Kd.string w A1 kw.length kw) (hc1 : kw.length ≤ c1) (h : impl_Places.f x kw = some r) :
    Calls Try.prog 17 #[.string x, .slice A1 kw.length c1] w fun e w' => ∃ v0_ : Value, e = .returned v0_ ∧ Kd.S (Kd.slice 3 (Kd.int .i64)) 41 w' w.heap.size (fun _ => True) v0_ r ∧ Below w.heap.size w w' := by
  unfold impl_Places.f at h
  split at h
  case isFalse => cases h
  rename_i hok
  injection h with h
  subst h
  exact (places_calls w x A1 c1 kw hr1 hc1 hok.1 hok.2.1 hok.2.2).mono fun e w' h => h
theorem impl_PlacesSorted.calls (x : ByteArray) (A1 : Option Addr) (c1 : Nat) (kw : List ByteArray) (r : List ByteArray) (w : World) (hr1 : Kd.C Kd.string w A1 kw.length kw) (hc1 : kw.length ≤ c1) (h : impl_PlacesSorted.f x kw = some r) :
    Calls Try.prog 21 #[.string x, .slice A1 kw.length c1] w fun e w' => ∃ v0_ : Value, e = .returned v0_ ∧ Kd.R Kd.string 9 w' w.heap.size (fun _ => True) v0_ r ∧ Below w.heap.size w w' := by
  unfold impl_PlacesSorted.f at h
  split at h
  case isFalse => cases h
  rename_i hok
  injection h with h
  subst h
  exact (placesSorted_calls w x A1 c1 kw hr1 hc1 hok.1 hok.2.1 hok.2.2).mono fun e w' h => h
end Go.Proofs.Ythecfligfhpccaa.P
