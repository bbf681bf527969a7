/- Between rows of cells and the print's kinds. sort.Strings and sort.StringsAreSorted over rows of texts. The double array: BuildWithIDs. The double array: Build, and impl.built. The double array: search. The double array: Find. -/
import Derived.Test.YtddcjmdcpkmnjaaMGn
import Derived.Test.YtddcjmdcpkmnjaaMAd
import Derived.Test.YtddcjmdcpkmnjaaP0
import Derived.Test.YtddcjmdcpkmnjaaShelf
import Derived.Test.YtddcjmdcpkmnjaaP45
import Derived.Test.YtddcjmdcpkmnjaaMPl
set_option linter.unusedVariables false
namespace Go.Proofs.Ytddcjmdcpkmnjaa.Gn
open Go.RowKit Go.Proofs.YtddcjmdcpkmnjaaW.PrintWords Go.Proofs.YtddcjmdcpkmnjaaW.PrintLast Go.Proofs.YtddcjmdcpkmnjaaW.PrintMore
theorem add_zero_addr (g j : Nat) : ((⟨g, 0, none⟩ : Addr).add j) = ⟨g, j, none⟩ := by
  unfold Addr.add
  by_cases hz : j = 0
  · rw [if_pos hz, hz]
  · rw [if_neg hz, Nat.zero_add]
theorem C_of_rowAt {α : Type} {enc : α → Value} {h1 : ∀ x, (enc x).oneCell' = true} {w : World} {g : Nat} {xs : List α} (h : RowAt w g enc xs) (hl : xs.length ≤ 9223372036854775807) : (Kd.scalar enc h1).C w (some ⟨g, 0, none⟩) xs.length xs := by
  refine ⟨rfl, hl, fun _ => ⟨⟨g, 0, none⟩, rfl, fun j p hj => ⟨[enc p], rfl, rfl, fun i u hu => ?_⟩⟩⟩
  obtain ⟨hj1, hj2⟩ := List.getElem?_eq_some_iff.1 hj
  rcases i with _ | i
  · have hu : enc p = u := by simpa using hu
    have := h j hj1
    show w.cell? ((⟨g, 0, none⟩ : Addr).add (j * 1 + 0)) = _
    rw [show j * 1 + 0 = j by omega, add_zero_addr, this, hj2, hu]
  · simp at hu
theorem C_of_row {α : Type} {enc : α → Value} {h1 : ∀ x, (enc x).oneCell' = true} {w : World} {e : Nat} {A : Option Addr} {c : Nat} {xs : List α} (h : ORow w e (.slice A xs.length c) (xs.map enc)) (hl : xs.length ≤ 9223372036854775807) : (Kd.scalar enc h1).C w A xs.length xs := by
  rcases h.parts with ⟨h2, h3⟩ | ⟨g, cap, cur, h2, _⟩
  · have : xs = [] := by simpa using h3
    subst this
    exact ⟨rfl, by simp, fun h => by simp at h⟩
  · injection h2 with h2 h3 h4
    subst h2
    exact C_of_rowAt (RowAt.of_row h) hl
theorem R_of_row {α : Type} {enc : α → Value} {h1 : ∀ x, (enc x).oneCell' = true} {w : World} {e base : Nat} {ok : Nat → Prop} {v : Value} {xs : List α} (h : ORow w e v (xs.map enc)) (hb : ∀ g, v.ownBlock = some g → base ≤ g ∧ ok g) : (Kd.scalar enc h1).R e w base ok v xs := by
  refine ⟨fun k hk => (hb k hk).2, xs.map enc, ?_, ?_⟩
  · rcases h.parts with ⟨h2, h3⟩ | ⟨g, cap, cur, h2, h3, h4, h5, h6, h7⟩
    · have : xs = [] := by simpa using h3
      subst this
      exact ⟨rfl, .inl ⟨h2, rfl⟩⟩
    · refine ⟨(show (xs.map enc).length = xs.length * 1 by simp), .inr ⟨g, cap, cur, by simpa using h2, (hb g (by rw [h2]; rfl)).1, h3, by simpa using h4, h5, ?_, ?_⟩⟩
      · show cur.size = cap * 1
        omega
      · show cur.toList.take (xs.length * 1) = _
        simpa using h7
  · refine ⟨(show (xs.map enc).length = xs.length * 1 by simp), fun j p hj => ?_⟩
    show ((xs.map enc).drop (j * 1)).take 1 = [enc p]
    obtain ⟨hj1, hj2⟩ := List.getElem?_eq_some_iff.1 hj
    rw [Nat.mul_one, List.drop_eq_getElem_cons (by simpa using hj1)]
    simp [hj2]
theorem row_of_R {α : Type} {enc : α → Value} {h1 : ∀ x, (enc x).oneCell' = true} {w : World} {e base : Nat} {ok : Nat → Prop} {v : Value} {xs : List α} (h : (Kd.scalar enc h1).R e w base ok v xs) : ORow w e v (xs.map enc) := by
  obtain ⟨_, cs, h2, h3, h4⟩ := h
  have hcs : cs = xs.map enc := by
    apply List.ext_getElem?
    intro j
    have hl : cs.length = xs.length * 1 := h3
    by_cases hj : j < xs.length
    · have := h4 j xs[j] (List.getElem?_eq_getElem hj)
      have this : (cs.drop (j * 1)).take 1 = [enc xs[j]] := this
      rw [Nat.mul_one, List.drop_eq_getElem_cons (by omega)] at this
      simp only [List.take_succ_cons, List.take_zero, List.cons.injEq, and_true] at this
      rw [List.getElem?_eq_getElem (by omega), this, List.getElem?_map, List.getElem?_eq_getElem hj]
      rfl
    · rw [List.getElem?_eq_none (by omega), List.getElem?_eq_none (by simpa using hj)]
  subst hcs
  obtain ⟨a1, a2⟩ := h2
  refine ⟨by simp, ?_⟩
  rcases a2 with ⟨a2, a3⟩ | ⟨g, cap, cur, a2, a3, a4, a5, a6, a7, a8⟩
  · exact .inl ⟨a2, by simpa using a3⟩
  · have a8 : cur.toList.take (xs.length * 1) = xs.map enc := a8
    have a7 : cur.size = cap * 1 := a7
    exact .inr ⟨g, cap, cur, by simpa using a2, Nat.zero_le _, a4, by simpa using a5, a6, a7, by simpa using a8⟩
end Go.Proofs.Ytddcjmdcpkmnjaa.Gn
namespace Go.Proofs.Ytddcjmdcpkmnjaa.Gn
open Go.RowKit Go.Sort Go.Proofs.YtddcjmdcpkmnjaaW.PrintWords Go.Proofs.Ytddcjmdcpkmnjaa.P
def toB (l : List UInt8) : ByteArray := ⟨l.toArray⟩
theorem toB_toL (s : ByteArray) : toB s.data.toList = s := by cases s; simp [toB]
theorem sort_any (w : World) (g c : Nat) (kw : List ByteArray) (h : ORow w 9 (.slice (some ⟨g, 0, none⟩) kw.length c) (kw.map Value.string)) (hl : kw.length < 1000000) :
    Calls Try.prog 48 #[.slice (some ⟨g, 0, none⟩) kw.length c] w fun e w' => e = .returned (.tuple #[]) ∧ ∃ ks : List ByteArray, ks.Perm kw ∧ Da.Srt ks ∧ ORow w' 9 (.slice (some ⟨g, 0, none⟩) ks.length c) (ks.map Value.string) ∧ Chg [g] w w' := by
  obtain ⟨ss, hss⟩ : ∃ ss : List (List UInt8), ss = kw.map (fun s => s.data.toList) := ⟨_, rfl⟩
  have hlen : ss.length = kw.length := by rw [hss, List.length_map]
  rcases h.parts with ⟨h1, _⟩ | ⟨g2, cap, cur, h1, h2, h3, h4, h5, h6⟩
  · cases h1
  injection h1 with h1 h7 h8
  injection h1 with h1
  injection h1 with h1
  subst h1
  subst h8
  have hcell : ∀ j, j < kw.length → cur[j]? = some (Value.string (kw.getD j ⟨#[]⟩)) := fun j hj => by
    have : (cur.toList.take (kw.map Value.string).length)[j]? = some (Value.string (kw.getD j ⟨#[]⟩)) := by
      rw [h6, List.getElem?_map, List.getElem?_eq_getElem hj, List.getD_eq_getElem?_getD, List.getElem?_eq_getElem hj]; rfl
    rw [List.getElem?_take, if_pos (by simpa using hj)] at this
    simpa using this
  have hH : Holds encStr w g 0 ss.toArray := fun j hj => by
    have hj' : j < kw.length := by simpa [hlen] using hj
    refine ⟨?_, by simp [World.frozen?, h2]⟩
    rw [Nat.zero_add]
    have : w.cell? ⟨g, j, none⟩ = cur[j]? := by simp [World.cell?, h2]
    rw [this, hcell j hj']
    have e : ss.toArray[j]! = (kw.getD j ⟨#[]⟩).data.toList := by
      have hj2 : j < ss.length := by omega
      rw [getElem!_pos ss.toArray j (by simpa using hj2)]
      simp only [hss, List.getElem_toArray, List.getElem_map]
      rw [List.getD_eq_getElem?_getD, List.getElem?_eq_getElem hj']; rfl
    rw [e]
  have hc := Try.sort_Strings g 0 c ss w hH (Array.getElem?_eq_some_iff.1 h2).1 (by omega)
  rw [hlen] at hc
  refine hc.mono ?_
  rintro e w' ⟨rfl, n, os, rfl⟩
  obtain ⟨ms, hms⟩ : ∃ ms, ms = ss.mergeSort (fun x y => decide (x ≤ y)) := ⟨_, rfl⟩
  rw [← hms]
  have hperm : ms.Perm ss := by rw [hms]; exact List.mergeSort_perm _ _
  have hmlen : ms.length = kw.length := by rw [hperm.length_eq, hlen]
  refine ⟨rfl, ms.map toB, ?_, ?_, ?_, ?_⟩
  · have := hperm.map toB
    rw [hss, List.map_map] at this
    have e : (toB ∘ fun s : ByteArray => s.data.toList) = id := by funext s; exact toB_toL s
    rwa [e, List.map_id] at this
  · have hs := List.pairwise_mergeSort (le := fun x y : List UInt8 => decide (x ≤ y)) (fun a b c h1 h2 => by simp only [decide_eq_true_eq] at *; exact Std.le_trans h1 h2) (fun a b => by simp only [Bool.or_eq_true, decide_eq_true_eq]; exact Std.le_total) ss
    rw [← hms] at hs
    unfold Da.Srt
    rw [List.pairwise_map]
    exact hs.imp (fun h => by simpa [toB] using h)
  · have hb : (grow (putRow encStr (Sort.ahead w n) g 0 ms.toArray) os).heap[g]? = some (.cells (putCells encStr 0 ms.toArray cur) 9 (0, 0)) := by
      have hlt := (Array.getElem?_eq_some_iff.1 h2).1
      have h3' := (Array.getElem?_eq_some_iff.1 h2).2
      show ((w.heap.modify g (onCells (putCells encStr 0 ms.toArray))) ++ os)[g]? = _
      rw [Array.getElem?_append_left (by simpa using hlt), Array.getElem?_eq_getElem (by simpa using hlt), Array.getElem_modify_self, h3']
      rfl
    have hl2 : (ms.map toB).length = (kw.map Value.string).length := by simp [hmlen]
    have e1 : ((ms.map toB).map Value.string).length = (ms.map toB).length := by simp
    rw [← e1]
    refine ORow.of hb (by rw [e1, hl2]; exact h3) h4 (by simp [putCells, h5]) ?_
    apply List.ext_getElem?
    intro j
    rw [List.getElem?_take]
    by_cases hj : j < ms.length
    · rw [if_pos (by simpa using hj)]
      have hjc : j < cur.size := by rw [h5]; simp at h3; omega
      simp only [putCells, Array.getElem?_toList, Array.getElem?_mapIdx, Array.getElem?_eq_getElem hjc, Option.map_some]
      rw [if_pos ⟨Nat.zero_le _, by simpa using hj⟩]
      rw [List.getElem?_map, List.getElem?_map, List.getElem?_eq_getElem hj]
      simp only [Nat.sub_zero]
      rw [getElem!_pos ms.toArray j (by simpa using hj)]
      rfl
    · rw [if_neg (by simpa using hj), List.getElem?_eq_none (by simpa using hj)]
  · refine ⟨rfl, rfl, rfl, ?_, fun k hk hs => ?_⟩
    · show w.heap.size ≤ ((w.heap.modify g (onCells (putCells encStr 0 ms.toArray))) ++ os).size
      simp
    · show ((w.heap.modify g (onCells (putCells encStr 0 ms.toArray))) ++ os)[k]? = w.heap[k]?
      have hkg : g ≠ k := fun e => hs (by simp [e])
      rw [Array.getElem?_append_left (by simpa using hk), Array.getElem?_modify, if_neg hkg]
theorem less_eq (a b : ByteArray) : cmp_Less_string.f a b = some (decide (a.data.toList < b.data.toList)) := by
  unfold cmp_Less_string.f cmp_isNaN_string.f
  simp [Go.ByteArray.toList_eq, Go.Proofs.bytesLess_eq]
theorem sorted_loop (kw : List ByteArray) (hl : kw.length < 1000000) : ∀ (d k : Nat), d < kw.length → d < k → ∃ r, slices_IsSorted_string_string.l0 k kw (d : Int) = some r ∧ (r = true → ∀ i, i < d → ∀ (h : i + 1 < kw.length), (kw[i]'(by omega)).data.toList ≤ (kw[i + 1]).data.toList) := by
  intro d
  induction d with
  | zero =>
    intro k h hk
    obtain ⟨k, rfl⟩ : ∃ m, k = m + 1 := ⟨k - 1, by omega⟩
    exact ⟨true, by simp only [slices_IsSorted_string_string.l0]; rw [if_neg (by omega)], fun _ i hi => by omega⟩
  | succ d ih =>
    intro k h hk
    obtain ⟨k, rfl⟩ : ∃ m, k = m + 1 := ⟨k - 1, by omega⟩
    have hw : wrap64 (((d + 1 : Nat) : Int) - 1) = (d : Int) := by unfold wrap64; omega
    have e1 : rdOf ByteArray.empty kw ((d + 1 : Nat) : Int) = kw[d + 1] := by unfold rdOf; rw [show ((d + 1 : Nat) : Int).toNat = d + 1 by omega, List.getD_eq_getElem?_getD, List.getElem?_eq_getElem h]; rfl
    have e2 : rdOf ByteArray.empty kw (d : Int) = kw[d]'(by omega) := by unfold rdOf; rw [show (d : Int).toNat = d by omega, List.getD_eq_getElem?_getD, List.getElem?_eq_getElem (by omega)]; rfl
    have hx : slices_IsSorted_string_string.l0 (k + 1) kw ((d + 1 : Nat) : Int) = (if (decide (kw[d + 1].data.toList < (kw[d]'(by omega)).data.toList)) = true then some false else slices_IsSorted_string_string.l0 k kw (d : Int)) := by
      simp only [slices_IsSorted_string_string.l0]
      rw [hw, e1, e2, less_eq, if_pos (by omega), if_pos (by omega), if_pos (by omega), if_pos (by omega), if_pos (by omega)]
      rfl
    by_cases hlt : kw[d + 1].data.toList < (kw[d]'(by omega)).data.toList
    · exact ⟨false, by rw [hx, decide_eq_true hlt]; rfl, fun h => by cases h⟩
    · obtain ⟨r, r1, r2⟩ := ih k (by omega) (by omega)
      refine ⟨r, by rw [hx, decide_eq_false hlt]; exact r1, fun hr i hi hi2 => ?_⟩
      rcases Nat.lt_or_ge i d with g | g
      · exact r2 hr i g hi2
      · obtain rfl : i = d := by omega
        exact hlt
theorem srt_of (kw : List ByteArray) (h : ∀ i, ∀ (h : i + 1 < kw.length), (kw[i]'(by omega)).data.toList ≤ (kw[i + 1]).data.toList) : Da.Srt kw := by
  unfold Da.Srt
  rw [List.pairwise_iff_getElem]
  have key : ∀ d i, ∀ (h1 : i + d < kw.length), (kw[i]'(by omega)).data.toList ≤ (kw[i + d]).data.toList := by
    intro d
    induction d with
    | zero => intro i h1; exact Std.le_refl _
    | succ d ih => intro i h1; exact Std.le_trans (ih i (by omega)) (h (i + d) h1)
  intro i j hi hj hij
  have := key (j - i) i (by omega)
  simpa [show i + (j - i) = j by omega] using this
theorem sorted_any (w : World) (g c : Nat) (kw : List ByteArray) (h : ORow w 9 (.slice (some ⟨g, 0, none⟩) kw.length c) (kw.map Value.string)) (hl : kw.length < 1000000) (h0 : 0 < kw.length) (hc : kw.length ≤ c) :
    Calls Try.prog 45 #[.slice (some ⟨g, 0, none⟩) kw.length c] w fun e w' => ∃ r : Bool, e = .returned (.bool r) ∧ (r = true → Da.Srt kw) ∧ ∃ n, w' = w.drewN n := by
  obtain ⟨r, r1, r2⟩ := sorted_loop kw hl (kw.length - 1) kw.length (by omega) (by omega)
  have hf : sort_StringsAreSorted.f kw.length kw = some r := by
    unfold sort_StringsAreSorted.f slices_IsSorted_string_string.f
    have hw : wrap64 ((kw.length : Int) - 1) = ((kw.length - 1 : Nat) : Int) := by unfold wrap64; omega
    rw [hw, r1]; rfl
  have hC : Kd.C Kd.string w (some ⟨g, 0, none⟩) kw.length kw := by
    exact C_of_row h (by omega)
  refine (sort_StringsAreSorted.calls kw.length (some ⟨g, 0, none⟩) c kw r w hC hc hf).mono ?_
  rintro e w' ⟨rfl, hd⟩
  exact ⟨r, rfl, fun hr => srt_of kw (fun i hi => r2 hr i (by omega) hi), hd.out⟩
end Go.Proofs.Ytddcjmdcpkmnjaa.Gn
namespace Go.Proofs.Ytddcjmdcpkmnjaa.Da
open Go.RowKit Go.Proofs.YtddcjmdcpkmnjaaW.PrintWords Go.Proofs.Ytddcjmdcpkmnjaa.Gn
theorem C0_at (N r : Nat) (h1 : 1 ≤ r) (h : r < N) : C0 N r = if r = N - 1 then -1 else -((r : Int) + 1) := by
  unfold C0 upd C1
  by_cases e : r = N - 1
  · rw [if_pos e, if_pos e]
  · rw [if_neg e, if_neg e, if_neg (by omega), if_pos h]
theorem B0_at (N r : Nat) (h1 : 1 ≤ r) (h : r < N) : B0 N r = if r = 1 then -((N : Int) - 1) else -((r : Int) - 1) := by
  unfold B0 upd B1
  by_cases e : r = 1
  · rw [if_pos e, if_pos e]
  · rw [if_neg e, if_neg e, if_neg (by omega), if_pos h]
theorem C0_zero (N : Nat) (h : 4 ≤ N) : C0 N 0 = -1 := by
  unfold C0 upd C1
  rw [if_neg (by omega), if_pos rfl]
theorem C0_neg (N r : Nat) (h1 : 1 ≤ r) (h : r < N) : C0 N r < 0 := by
  rw [C0_at N r h1 h]
  split <;> omega
theorem inv_init (N : Nat) (hN : 4 ≤ N) : Inv N (B0 N) (C0 N) := by
  refine ⟨⟨1, by rw [C0_zero N hN]; rfl, by omega, by omega, C0_neg N 1 (by omega) (by omega), fun r a b => by omega⟩, fun p a b _ => ?_, fun q a b _ => ?_, fun r a b c => ?_⟩
  · by_cases e : p = N - 1
    · refine ⟨1, by rw [C0_at N p a b, if_pos e]; rfl, by omega, by omega, C0_neg N 1 (by omega) (by omega), by rw [B0_at N 1 (by omega) (by omega), if_pos rfl]; omega, .inr ⟨by omega, fun r c d => by omega, fun r c d => by omega⟩⟩
    · refine ⟨p + 1, by rw [C0_at N p a b, if_neg e]; omega, by omega, by omega, C0_neg N _ (by omega) (by omega), by rw [B0_at N (p + 1) (by omega) (by omega), if_neg (by omega)]; omega, .inl ⟨by omega, fun r c d => by omega⟩⟩
  · by_cases e : q = 1
    · exact ⟨N - 1, by rw [B0_at N q a b, if_pos e]; omega, by omega, by omega, C0_neg N _ (by omega) (by omega), by rw [C0_at N (N - 1) (by omega) (by omega), if_pos rfl, e]; rfl⟩
    · exact ⟨q - 1, by rw [B0_at N q a b, if_neg e]; omega, by omega, by omega, C0_neg N _ (by omega) (by omega), by rw [C0_at N (q - 1) (by omega) (by omega), if_neg (by omega)]; omega⟩
  · have := C0_neg N r a b; omega
structure BuildPre (w : World) (gk ck gi ci : Nat) (kw : List ByteArray) (ids : List Int) : Prop where
  kws : ORow w 9 (.slice (some ⟨gk, 0, none⟩) kw.length ck) (kw.map Value.string)
  idr : ORow w 3 (.slice (some ⟨gi, 0, none⟩) ids.length ci) (ids.map (Value.int .i64))
  ne : gk ≠ gi
  len : ids.length = kw.length
  pos : 0 < kw.length
  most : kw.length ≤ 30
  nd : kw.Nodup
  ids2 : ∀ x ∈ ids, 0 ≤ x ∧ x ≤ 1100000
  sz : ∀ s ∈ kw, s.size ≤ 40
  nz : ∀ s ∈ kw, ∀ j, j < s.size → (s.get! j).toNat ≠ 0
/-- What is built. -/
def Built (w w' : World) (S : List Nat) (kw : List ByteArray) (ids : List Int) (v : Value) : Prop :=
  ∃ b m B C, v = .slice (some ⟨b, 0, none⟩) m m ∧ w'.heap[b]? = some (.cells (row m B C) 71 (0, 0)) ∧ w.heap.size ≤ b ∧ m ≤ 60000 ∧ TrieOk kw ids m B C ∧ Chg S w w'
theorem cnt_le (kw : List ByteArray) (hs : ∀ s ∈ kw, s.size ≤ 40) : ∀ br : List Nat, cnt kw 0 br ≤ br.length * 41 := by
  intro br
  unfold cnt
  induction br with
  | nil => simp
  | cons x br ih =>
    have : (wd kw x).size ≤ 40 := by
      unfold wd
      rw [List.getD_eq_getElem?_getD]
      cases h : kw[x]? with
      | none => exact Nat.zero_le _
      | some s => exact hs s (List.mem_of_getElem? h)
    simp only [List.map_cons, List.sum_cons, List.length_cons]
    omega
theorem trie_ok {kw kw' : List ByteArray} {ids ids' : List Int} {m : Nat} {B C B2 C2 : Nat → Int} {U : List Nat} (hA : Added 51200 0 41 0 B C kw' ids' (List.range kw'.length) U B2 C2) (hm : m ≤ 51200) (hfree : ∀ r, m ≤ r → r < 51200 → C2 r < 0) (hf : Fit kw' 41 0 (List.range kw'.length))
    (hp : kw'.Perm kw) (hnd : kw.Nodup) (hid : ∀ x, x < kw'.length → ids'.getD x 0 = idOf kw ids (wd kw' x)) (h2 : ∀ x ∈ ids, 0 ≤ x ∧ x ≤ 1100000) (hl : ids.length = kw.length) (hnz : ∀ u ∈ kw, ∀ j, j < u.size → (u.get! j).toNat ≠ 0) : TrieOk kw ids m B2 C2 := by
  obtain ⟨U', a1, a2, a3, a4, a5⟩ := hA
  have hm0 : 0 < m := by
    rcases Nat.eq_zero_or_pos m with g | g
    · subst g
      obtain ⟨base, b1, b2, b3⟩ := a5
      obtain ⟨x, hx⟩ := List.exists_mem_of_ne_nil _ hf.1
      have := (b3 _ (chAt_le (wd kw' x) 0)).2 ((mem_chsOf _ _ _ _).2 ⟨x, hx, rfl⟩)
      have h3 := hfree _ (Nat.zero_le _) this.1
      rw [this.2.1] at h3
      omega
    · exact g
  refine ⟨⟨51200, _, 41, kw', ids', hp, hm, by omega, hfree, a5, hf, hp.nodup_iff.2 hnd, hid, h2, hl, hm0, hnz⟩, fun r hr => ?_⟩
  rcases Nat.eq_zero_or_pos r with g | g
  · subst g
    obtain ⟨h, b1, b2, b3, _⟩ := a1.root
    omega
  · rcases Int.lt_or_le (C2 r) 0 with g2 | g2
    · obtain ⟨q, b1, b2, b3, _⟩ := a1.next r g (by omega) g2
      omega
    · obtain ⟨q, b1, b2, _⟩ := a1.par r g (by omega) g2
      omega
/-- Places from 0 on, as far as they are laid. -/
def brow (L i : Nat) : Array Value := Array.ofFn (n := L) fun q => .int .i64 (if q.val < i then (q.val : Int) else 0)
theorem brow_get (L i q : Nat) : (brow L i)[q]? = if q < L then some (.int .i64 (if q < i then (q : Int) else 0)) else none := by
  by_cases h : q < L
  · rw [if_pos h]; simp [brow, h]
  · rw [if_neg h]; simp [brow]; omega
theorem brow_zero (L : Nat) : madeCells #[.int .i64 0] (L * 1) = brow L 0 := by
  apply Array.ext_getElem?
  intro q
  rw [brow_get]
  unfold madeCells
  by_cases h : q < L
  · rw [if_pos h, Array.getElem?_map, Array.getElem?_range, if_pos (by omega)]
    simp [Nat.mod_one]
  · rw [if_neg h, Array.getElem?_eq_none (by simp; omega)]
theorem brow_set (L i : Nat) : (brow L i).setIfInBounds i (.int .i64 i) = brow L (i + 1) := by
  apply Array.ext_getElem?
  intro q
  rw [Array.getElem?_setIfInBounds, brow_get, brow_get]
  by_cases e : i = q
  · subst e
    rw [if_pos rfl]
    have : (brow L i).size = L := by simp [brow]
    rw [this]
    by_cases h : i < L
    · rw [if_pos h, if_pos h, if_pos (by omega)]
    · rw [if_neg h, if_neg h]
  · rw [if_neg e]
    by_cases h : q < L
    · rw [if_pos h, if_pos h]
      by_cases h2 : q < i
      · rw [if_pos h2, if_pos (by omega)]
      · rw [if_neg h2, if_neg (by omega)]
    · rw [if_neg h, if_neg h]
theorem brow_row {w : World} {g L : Nat} (h : w.heap[g]? = some (.cells (brow L L) 3 (0, 0))) : RowAt w g i64 (List.range L) := fun j hj => by
  have hj' : j < L := by simpa using hj
  simp [World.cell?, h, brow_get, hj', i64]
def Filled (w : World) (r : Nat) (kw : List ByteArray) (ids : List Int) (j : Nat) : Prop :=
  ∃ S : List (ByteArray × Value), MapAt w r (fun s : ByteArray => Value.string s) S ∧ ∀ x, x < j → ∀ (h : x < kw.length), getL S kw[x] = some (.int .i64 (ids.getD x 0))
theorem Filled.put {w' : World} {r : Nat} {kw : List ByteArray} {ids : List Int} {j : Nat} {S : List (ByteArray × Value)} (h : ∀ x, x < j → ∀ (h : x < kw.length), getL S kw[x] = some (.int .i64 (ids.getD x 0))) (hnd : kw.Nodup) (hj : j < kw.length) {s : ByteArray} (hs : s = kw[j]) {y : Int} (hy : y = ids.getD j 0)
    (hm : MapAt w' r (fun s : ByteArray => Value.string s) (putL S s (.int .i64 y))) : Filled w' r kw ids (j + 1) := by
  refine ⟨_, hm, fun x hx hx2 => ?_⟩
  rw [getL_putL, hs]
  by_cases e : x = j
  · subst e; rw [if_pos rfl, hy]
  · rw [if_neg (fun q => e (by have h1 := hnd.idxOf_getElem x hx2; have h2 := hnd.idxOf_getElem j hj; rw [q, h2] at h1; exact h1.symm))]
    exact h x (by omega) hx2
theorem zeroI (w : World) : (zeroValue 3).run Try.prog w = .ok (.int .i64 0) w := by kernel_rfl
theorem Filled.get {w : World} {r : Nat} {kw : List ByteArray} {ids : List Int} (h : Filled w r kw ids kw.length) (hnd : kw.Nodup) : ∃ S : List (ByteArray × Value), MapAt w r (fun s : ByteArray => Value.string s) S ∧ ∀ s ∈ kw, getL S s = some (.int .i64 (idOf kw ids s)) := by
  obtain ⟨S, h1, h2⟩ := h
  refine ⟨S, h1, fun s hs => ?_⟩
  obtain ⟨x, hx, rfl⟩ := List.getElem_of_mem hs
  rw [h2 x hx hx]
  unfold idOf
  rw [hnd.idxOf_getElem x hx]
theorem own_slice {w : World} {e n : Nat} {v : Value} {xs : List Value} (h : ORow w e v xs) (h0 : xs ≠ []) (hn : xs.length = n) : ∃ g c, v = .slice (some ⟨g, 0, none⟩) n c ∧ n ≤ c := by
  subst hn
  obtain ⟨A, c, e, h1, h2, _⟩ := h.slice
  obtain ⟨g, rfl⟩ := h2 h0
  exact ⟨g, c, e, h1⟩
theorem ORow.cut0 {w : World} {e g n c : Nat} {xs : List Value} (h : ORow w e (.slice (some ⟨g, 0, none⟩) n c) xs) : ORow w e (.slice (some ⟨g, 0, none⟩) 0 c) [] := by
  rcases h.parts with ⟨h1, _⟩ | ⟨g2, cap, cur, h1, h2, h3, h4, h5, h6⟩
  · cases h1
  · injection h1 with h1 h7 h8
    injection h1 with h1
    injection h1 with h1
    subst h1
    subst h8
    exact ORow.of h2 (Nat.zero_le _) h4 h5 rfl
set_option maxHeartbeats 2000000 in
set_option maxRecDepth 100000 in
theorem build_calls (w : World) (gk ck gi ci : Nat) (kw : List ByteArray) (ids : List Int) (h : BuildPre w gk ck gi ci kw ids) :
    Calls Try.prog 43 #[.slice (some ⟨gk, 0, none⟩) kw.length ck, .slice (some ⟨gi, 0, none⟩) ids.length ci] w fun e w' => ∃ v, e = .returned (.tuple #[v, .nilIface]) ∧ Built w w' [gk, gi] kw ids v := by
  have H := Aside0.mk h
  have hmost := h.most
  have hpos := h.pos
  have q1 : (((kw.length : Nat) : Int) != ((ids.length : Nat) : Int)) = false := bne_eq_false_iff_eq.2 (by rw [h.len])
  have q2 : (kw.length != ids.length) = false := bne_eq_false_iff_eq.2 (by rw [h.len])
  have q3 : (((kw.length : Nat) : Int) == 0) = false := beq_eq_false_iff_ne.2 (by omega)
  have q4 : (kw.length == 0) = false := beq_eq_false_iff_ne.2 (by omega)
  clear h
  go_enter Try.func43, Try.ntmps43
  have HV0 : Aside0 (Var ((w.alloc (.cells #[] 71)).alloc (.cells #[.slice (some ⟨w.heap.size, 0, none⟩) 0 0] 48)) (w.heap.size + 1) 48 (.slice (some ⟨w.heap.size, 0, none⟩) 0 0)) := ⟨by
    have := heap_alloc_new (w.alloc (.cells #[] 71)) (.cells #[.slice (some ⟨w.heap.size, 0, none⟩) 0 0] 48)
    rw [size_alloc] at this
    exact this⟩
  have HC0 : Aside0 (Chg [] w ((w.alloc (.cells #[] 71)).alloc (.cells #[.slice (some ⟨w.heap.size, 0, none⟩) 0 0] 48))) := ⟨((Chg.refl [] w).alloc _).alloc _⟩
  have HZ0 : Aside0 (((w.alloc (.cells #[] 71)).alloc (.cells #[.slice (some ⟨w.heap.size, 0, none⟩) 0 0] 48)).heap.size = w.heap.size + 2) := ⟨by rw [size_alloc, size_alloc]⟩
  go_wp2_with fail
  generalize (w.alloc (.cells #[] 71)).alloc (.cells #[.slice (some ⟨w.heap.size, 0, none⟩) 0 0] 48) = w0 at *
  refine (init_calls w0 _ _ HV0.out).mono ?_
  rintro e w1 ⟨rfl, ha, hs, hc⟩
  rw [HZ0.out] at ha hs
  have hgk : gk < w.heap.size := (H.out.kws.block rfl).1
  have hgi : gi < w.heap.size := (H.out.idr.block rfl).1
  have HC1 : Aside0 (Chg [] w w1) := ⟨HC0.out.above hc (fun i hi => .inr (by rw [List.mem_singleton.1 hi]; omega))⟩
  have HA1 := Aside0.mk ha
  have HK1 := Aside0.mk (H.out.kws.chg HC1.out (fun _ _ => by simp))
  have HI1 := Aside0.mk (H.out.idr.chg HC1.out (fun _ _ => by simp))
  have HSZ1 := Aside0.mk hs
  have hkc : kw.length ≤ ck := by have := H.out.kws.slice; obtain ⟨A, c, e, h1, _⟩ := this; injection e with _ _ e; rw [e]; simpa using h1
  clear ha hs hc HC0 HZ0 HV0
  go_wp2_with fail
  refine (sorted_any w1 gk ck kw HK1.out (by omega) hpos hkc).mono ?_
  rintro e w2' ⟨r, rfl, hsrt, nd, rfl⟩
  have HA2 := Aside0.mk (HA1.out.drewN nd)
  have HC2 := Aside0.mk (HC1.out.drewN nd)
  have HK2 := Aside0.mk (HK1.out.chg ((Chg.refl [] w1).drewN nd) (fun _ _ => by simp))
  have HI2 := Aside0.mk (HI1.out.chg ((Chg.refl [] w1).drewN nd) (fun _ _ => by simp))
  have HSZ2 : Aside0 ((w1.drewN nd).heap.size = w.heap.size + 3) := ⟨HSZ1.out⟩
  clear HA1 HC1 HK1 HI1 HSZ1
  generalize w1.drewN nd = w2 at *
  cases r with
  | true =>
    have HSR := Aside0.mk (hsrt rfl)
    clear hsrt
    obtain ⟨kx, HKE⟩ : ∃ kx, Aside0 (kx = kw) := ⟨_, ⟨rfl⟩⟩
    have HP : Aside0 (kx.Perm kw) := ⟨by rw [HKE.out]⟩
    have HID : Aside0 (∀ x, x < kx.length → ids.getD x 0 = idOf kw ids (wd kx x)) := ⟨fun x hx => by
      rw [HKE.out] at hx ⊢
      unfold idOf
      rw [wd_get kw hx, H.out.nd.idxOf_getElem x hx]⟩
    have HIL : Aside0 (ids.length = kx.length) := ⟨by rw [HKE.out]; exact H.out.len⟩
    have HBI := Aside0.mk H.out.ids2
    have HSX : Aside0 (Srt kx) := ⟨by rw [HKE.out]; exact HSR.out⟩
    have HKX : Aside0 (ORow w2 9 (.slice (some ⟨gk, 0, none⟩) kx.length ck) (kx.map Value.string)) := ⟨by rw [HKE.out]; exact HK2.out⟩
    have HSZX : Aside0 (w.heap.size + 3 ≤ w2.heap.size) := ⟨by rw [HSZ2.out]; exact Nat.le_refl _⟩
    have HL : Aside0 (kx.length = kw.length) := ⟨HP.out.length_eq⟩
    have hgX : w.heap.size + 3 ≤ w2.heap.size := HSZX.out
    have HB3 : Aside0 (∀ w3, w3 = w2.alloc (.cells (madeCells #[.int .i64 0] (kw.length * 1)) 3) → w3.heap[w2.heap.size]? = some (.cells (brow kw.length 0) 3 (0, 0))) := ⟨fun w3 e => by rw [e, heap_alloc_new, brow_zero]⟩
    go_wp2_with (at_make; refine wpList_make rfl _ _ _ rfl 3 (.int .i64 0) 1 8 Try.underlying23 info3 .i64 .i64 (kw.length : Int) (kw.length : Int) rfl rfl (by omega) (by omega) (by omega) (by omega) ?_; intro w3 e3; have HR3 := Aside0.mk (HB3.out w3 e3); have HC3 : Aside0 (Chg [] w2 w3) := ⟨by rw [e3]; exact (Chg.refl [] w2).alloc _⟩; clear e3 HB3)
    go_loopw [67] (fun v67 wr => ∃ i : Nat, v67 = .int .i64 i ∧ Aside0 (i ≤ kw.length) ∧ Aside0 (wr.heap[w2.heap.size]? = some (.cells (brow kw.length i) 3 (0, 0))) ∧ Aside0 (Chg [w2.heap.size] w3 wr)) (fun v67 _ => kw.length - (intOf v67).toNat)
    case atStart => exact ⟨0, rfl, ⟨Nat.zero_le _⟩, HR3, ⟨Chg.refl _ _⟩⟩
    case round =>
      clear HR3
      obtain ⟨i, rfl, HI0, HR, HCR⟩ := hrel
      by_cases hlt : i < kw.length
      · have c1 : wr.cell? ⟨w2.heap.size, i, none⟩ = some (.int .i64 0) := by
          simp [World.cell?, HR.out, brow_get, hlt]
        have f1 : wr.frozen? ⟨w2.heap.size, i, none⟩ = false := by simp [World.frozen?, HR.out]
        have k1 : decide ((0:Int) ≤ (i:Int)) = true := decide_eq_true (by omega)
        have k2 : decide ((i:Int) < (kw.length:Int)) = true := decide_eq_true (by omega)
        have HR4 : Aside0 ((wr.setCell ⟨w2.heap.size, i, none⟩ (.int .i64 i)).heap[w2.heap.size]? = some (.cells (brow kw.length (i + 1)) 3 (0, 0))) := ⟨by
          have := heap_put wr ⟨w2.heap.size, i, none⟩ _ _ _ (.int .i64 i) HR.out rfl
          rw [this, brow_set]⟩
        go_wp2_with fail
        go_roundw
        case rel => exact ⟨i + 1, by go_num, ⟨by omega⟩, HR4, ⟨HCR.out.setCell (.inl (by simp)) _⟩⟩
        case measure => simp [intOf]; omega
      · have hi : i = kw.length := by have := HI0.out; omega
        have hrow := HR.out
        rw [hi] at hrow
        have k1 : decide (i < kw.length) = false := decide_eq_false hlt
        have k2 : decide ((i:Int) < (kw.length:Int)) = false := decide_eq_false (by omega)
        have hcx : Chg [w2.heap.size] w2 wr := (HC3.out.mono (by simp)).trans HCR.out
        have hcx0 : Chg [] w2 wr := hcx.above (Chg.refl [] _) (by simp) |> fun q => ⟨q.os, q.tape, q.output, q.size, fun j hj _ => hcx.block j hj (by simp; omega)⟩
        have hfit : Fit kx 41 0 (List.range kx.length) := fit_of kx HSX.out 40 (fun s hs => H.out.sz s (HP.out.mem_iff.1 hs)) (fun s hs => H.out.nz s (HP.out.mem_iff.1 hs)) 41 0 _ (by rw [HL.out]; intro e; have := congrArg List.length e; rw [List.length_range, List.length_nil] at this; omega) (List.pairwise_lt_range) (fun x hx => ⟨by simpa using hx, Nat.zero_le _⟩) (fun _ _ _ _ j hj => by omega) (by omega)
        have HFIT := Aside0.mk hfit
        have HAD := Aside0.mk (add_calls kx ids 41 wr (w.heap.size + 1) (w.heap.size + 2) 51200 (B0 51200) (C0 51200) 0 0 (List.range kx.length) w2.heap.size kw.length gk ck gi ci [] ⟨HA2.out.chg hcx0 (by simp) (by simp), by rw [HL.out]; exact brow_row hrow, by
          have := HKX.out.chg hcx0 (fun _ _ => by simp)
          exact RowAt.of_row this, by
          have := HI2.out.chg hcx0 (fun _ _ => by simp)
          exact RowAt.of_row this, ⟨by omega, by omega, by omega⟩, ⟨by rw [List.length_range, HL.out]; exact Nat.le_refl _, by rw [HL.out]; exact hkc, by have := H.out.idr.slice; obtain ⟨A, c, e, h1, _⟩ := this; injection e with _ _ e; rw [e]; simpa using h1⟩, by omega, by omega, inv_init 51200 (by omega), fun r a b c => by have := C0_neg 51200 r a b; omega, by
          have := cnt_le kx (fun s hs => H.out.sz s (HP.out.mem_iff.1 hs)) (List.range kx.length)
          rw [List.length_range, HL.out] at this
          rw [HL.out]
          simp only [List.length_nil]
          omega, by rw [List.length_range, HL.out]; exact hmost, by omega, .inl rfl, fun _ => ⟨rfl, fun r a b => C0_neg 51200 r a b⟩, fun r a b => by have := C0_neg 51200 r a b; omega, hfit, by omega, by rw [HL.out]; exact hmost, HIL.out, HBI.out, fun s hs => by have := H.out.sz s (HP.out.mem_iff.1 hs); omega, fun s hs => H.out.nz s (HP.out.mem_iff.1 hs)⟩)
        rw [List.length_range, HL.out] at HAD
        have HCX := Aside0.mk hcx0
        clear hi hrow hcx hcx0 hfit HI0 HR
        go_wp2_with fail
        refine HAD.out.mono ?_
        rintro e w4 ⟨rfl, B4, C4, ha4, hc4, hA4⟩
        have HC5 : Aside0 (Chg [gk, gi] w w4) := ⟨by
          have h1 : Chg [gk, gi] w w2 := HC2.out.mono (by simp)
          exact (h1.above HCX.out (by simp)).above hc4 (fun q hq => .inr (by rw [List.mem_singleton.1 hq]; omega))⟩
        have HSZ4 : Aside0 (w2.heap.size ≤ w4.heap.size) := ⟨Nat.le_trans HCX.out.size hc4.size⟩
        have HA4 := Aside0.mk ha4
        have HAA := Aside0.mk hA4
        clear ha4 hc4 hA4 HAD HCX
        go_wp2_with fail
        refine (truncate_calls w4 _ _ _ _ _ HA4.out (by omega)).mono ?_
        rintro e w5 ⟨rfl, m, b', hm1, hm2, ha5, hc5, hs5⟩
        have HC6 : Aside0 (Chg [gk, gi] w w5) := ⟨HC5.out.above hc5 (fun q hq => .inr (by rw [List.mem_singleton.1 hq]; omega))⟩
        have HA5 := Aside0.mk ha5
        have hcell := ha5.cell
        have HTR : Aside0 (TrieOk kw ids m B4 C4) := ⟨by
          have hAA := HAA.out
          rw [← HL.out] at hAA
          exact trie_ok hAA hm1 hm2 HFIT.out HP.out H.out.nd HID.out H.out.ids2 H.out.len H.out.nz⟩
        have HM1 := Aside0.mk hm1
        have HBB : Aside0 (w.heap.size ≤ b') := ⟨by have := HSZ4.out; rcases hs5 with q | q <;> omega⟩
        clear ha5 hc5 hm1 hm2 HA4 HAA HC5 hs5
        go_wp2_with fail
        go_ret2
        exact ⟨_, rfl, b', m, B4, C4, rfl, HA5.out.row, HBB.out, by have := HM1.out; omega, HTR.out, HC6.out⟩
  | false =>
    clear hsrt
    have hmm := @run_makeMap Try.prog
    have HM0 : Aside0 (Filled (w2.alloc (.map #[] 0)) w2.heap.size kw ids 0) := ⟨[], MapAt.new _ _, fun x hx => by omega⟩
    have HC0 : Aside0 (Chg [] w2 (w2.alloc (.map #[] 0))) := ⟨(Chg.refl [] w2).alloc _⟩
    go_wp2_with fail
    clear hmm
    go_loopw [33] (fun v33 wr => ∃ j : Nat, v33 = .int .i64 j ∧ Aside0 (j ≤ kw.length) ∧ Aside0 (Filled wr w2.heap.size kw ids j) ∧ Aside0 (Chg [w2.heap.size] (w2.alloc (.map #[] 0)) wr)) (fun v33 _ => kw.length - (intOf v33).toNat)
    case atStart => exact ⟨0, rfl, ⟨Nat.zero_le _⟩, HM0, ⟨Chg.refl _ _⟩⟩
    case round =>
      clear HM0
      obtain ⟨j, rfl, HJ, HFI, HCR⟩ := hrel
      have hcg : Chg [] w2 wr := HC0.out.above HCR.out (fun i hi => .inr (by rw [List.mem_singleton.1 hi]; exact Nat.le_refl _))
      by_cases hlt : j < kw.length
      · obtain ⟨s, hs⟩ : ∃ s, s = kw[j] := ⟨_, rfl⟩
        have hji : j < ids.length := by rw [H.out.len]; exact hlt
        obtain ⟨y, hy⟩ : ∃ y, y = ids.getD j 0 := ⟨_, rfl⟩
        have c1 : wr.cell? ⟨gk, j, none⟩ = some (.string s) := by
          have := (HK2.out.chg hcg (by simp)).cell j (by simpa using hlt)
          rw [this, List.getElem_map, hs]
        have c2 : wr.cell? ⟨gi, j, none⟩ = some (.int .i64 y) := by
          have := (HI2.out.chg hcg (by simp)).cell j (by simpa using hji)
          rw [this, List.getElem_map, hy, List.getD_eq_getElem?_getD, List.getElem?_eq_getElem hji]; rfl
        have k1 : decide ((0:Int) ≤ (j:Int)) = true := decide_eq_true (by omega)
        have k2 : decide ((j:Int) < (kw.length:Int)) = true := decide_eq_true (by omega)
        have k3 : decide ((j:Int) < (ids.length:Int)) = true := decide_eq_true (by omega)
        obtain ⟨S, hS1, hS2⟩ := HFI.out
        have HS1 := Aside0.mk hS1
        have HS2 := Aside0.mk hS2
        have HS := Aside0.mk hs
        have HY := Aside0.mk hy
        clear hs hy hcg hS1 hS2 HFI
        go_wp2_with (at_mapUpdate; refine wpList_mapUpdate rfl _ _ _ _ rfl rfl s rfl (.int .i64 y) rfl HS1.out (keyStr Try.underlying9) Try.underlying74 ?_; intro w4 m4 h4 z4; have HF4 := Aside0.mk (Filled.put HS2.out H.out.nd hlt HS.out HY.out m4); have HC4 : Aside0 (Chg [w2.heap.size] (w2.alloc (.map #[] 0)) w4) := ⟨HCR.out.trans h4⟩; clear m4 h4 z4)
        go_roundw
        case rel => exact ⟨j + 1, by go_num, ⟨by omega⟩, HF4, HC4⟩
        case measure => simp [intOf]; omega
      · have hj : j = kw.length := by have := HJ.out; omega
        have k1 : decide (j < kw.length) = false := decide_eq_false hlt
        have k2 : decide ((j:Int) < (kw.length:Int)) = false := decide_eq_false (by omega)
        have hFF := HFI.out
        rw [hj] at hFF
        have HFF := Aside0.mk hFF
        have HCG := Aside0.mk hcg
        clear hj hFF hcg HFI HJ HCR HC0
        go_wp2_with fail
        refine (sort_any wr gk ck kw (HK2.out.chg HCG.out (by simp)) (by omega)).mono ?_
        rintro e w3 ⟨rfl, kx, hp, hsx, hkx, hcx⟩
        have HP := Aside0.mk hp
        have HSX := Aside0.mk hsx
        have HKX := Aside0.mk hkx
        have hm2 : w2.heap.size < wr.heap.size := by obtain ⟨S, q, _⟩ := HFF.out; exact q.lt
        have HFG := Aside0.mk (show ∃ S : List (ByteArray × Value), MapAt w3 w2.heap.size (fun s : ByteArray => Value.string s) S ∧ ∀ s ∈ kw, getL S s = some (.int .i64 (idOf kw ids s)) from by
          obtain ⟨S, q1, q2⟩ := HFF.out.get H.out.nd
          exact ⟨S, q1.chg hcx (by have := HSZ2.out; simp; omega), q2⟩)
        have HLX : Aside0 (kx.length = kw.length) := ⟨hp.length_eq⟩
        have HC3 : Aside0 (Chg [gk, gi] w w3) := ⟨((HC2.out.mono (by simp)).above HCG.out (by simp) : Chg [gk, gi] w wr).above hcx (by simp)⟩
        have HG2 : Aside0 (Chg [gk] w2 w3) := ⟨(HCG.out.mono (by simp)).trans hcx⟩
        have HI3 := Aside0.mk (HI2.out.chg HG2.out (fun g hg => by cases hg; simpa using fun q => H.out.ne q.symm))
        have HSZ3 : Aside0 (w.heap.size + 3 ≤ w3.heap.size) := ⟨by have := HSZ2.out; have := HG2.out.size; omega⟩
        have hkl : kx.length ≤ 30 := by rw [HLX.out]; exact hmost
        have hR0 := ORow.cut0 HI3.out
        have HR0 := Aside0.mk hR0
        clear hp hsx hkx hcx hm2 HFF HCG hR0
        go_wp2_with fail
        go_loopw [1, 51] (fun v1 v51 wr => ∃ j : Nat, v51 = .int .i64 j ∧ Aside0 (j ≤ kx.length) ∧ Aside0 (ORow wr 3 v1 ((kx.take j).map (fun u => .int .i64 (idOf kw ids u)))) ∧ Aside0 (Chg [gi] w3 wr) ∧ Aside0 (v1.ownBlock = some gi ∨ ∃ g, v1.ownBlock = some g ∧ w3.heap.size ≤ g)) (fun _ v51 _ => kx.length - (intOf v51).toNat)
        case atStart => exact ⟨0, rfl, ⟨Nat.zero_le _⟩, HR0, ⟨Chg.refl _ _⟩, ⟨.inl rfl⟩⟩
        case round =>
          clear HR0
          obtain ⟨j, rfl, HJ, HRJ, HCJ, HBJ⟩ := hrel
          by_cases hlt : j < kx.length
          · obtain ⟨s, hs⟩ : ∃ s, s = kx[j] := ⟨_, rfl⟩
            have hsm : s ∈ kw := HP.out.mem_iff.1 (by rw [hs]; exact List.getElem_mem _)
            obtain ⟨S, hS1, hS2⟩ := HFG.out
            have hgm : w2.heap.size ≠ gi := by have := HSZ2.out; omega
            have HS1 := Aside0.mk (hS1.chg HCJ.out (by simpa using hgm))
            have HS2 := Aside0.mk (hS2 s hsm)
            have c1 : wr.cell? ⟨gk, j, none⟩ = some (.string s) := by
              have := (HKX.out.chg HCJ.out (fun g hg => by cases hg; simpa using H.out.ne)).cell j (by simpa using hlt)
              rw [this, List.getElem_map, hs]
            obtain ⟨y, hy⟩ : ∃ y, y = idOf kw ids s := ⟨_, rfl⟩
            have HT := Aside0.mk (show (kx.take (j + 1)).map (fun u => Value.int .i64 (idOf kw ids u)) = (kx.take j).map (fun u => Value.int .i64 (idOf kw ids u)) ++ [.int .i64 y] by rw [List.take_succ_eq_append_getElem hlt, ← hs, List.map_append, hy]; rfl)
            have HLT := Aside0.mk (show ((kx.take j).map (fun u => Value.int .i64 (idOf kw ids u))).length = j by rw [List.length_map, List.length_take]; omega)
            have k1 : decide ((0:Int) ≤ (j:Int)) = true := decide_eq_true (by omega)
            have k2 : decide ((j:Int) < (kw.length:Int)) = true := decide_eq_true (by rw [← HLX.out]; omega)
            have k3 : j < kw.length := by rw [← HLX.out]; omega
            obtain ⟨A, cp, e, hl1, hl2, hl3⟩ := HRJ.out.slice
            rw [HLT.out] at e hl1
            subst e
            have HS3 : Aside0 (getL S s = some (.int .i64 y)) := ⟨by rw [HS2.out, hy]⟩
            clear hs hy hgm hS1 hS2 hsm hl2 hl3 HS2
            go_wp2_with (first | (at_lookup; refine wpList_lookup rfl _ _ _ false rfl rfl s rfl HS1.out (keyStr Try.underlying9) Try.underlying74 (.int .i64 0) zeroI ?_; rw [if_neg (by decide), HS3.out]) | (at_builtin; refine wpList_append1 rfl _ _ 23 rfl 3 (.int .i64 0) 8 Try.underlying23 info3 rfl _ ((kx.take j).map (fun u => Value.int .i64 (idOf kw ids u))) rfl (HRJ.out.chg ((Chg.refl [] wr).alloc _) (fun _ _ => by simp)) wr.heap.size (.int .i64 y) rfl (cell_box wr _ _) rfl ?s1 ?s2 ?_; (case s1 => (rw [HLT.out]; omega)); (case s2 => (rw [HLT.out]; unfold maxLen; omega)); intro v4 w4 hr4 hc4 ho4; have HR4 := Aside0.mk hr4; have HC4 := Aside0.mk hc4; have HO4 := Aside0.mk ho4; clear hr4 hc4 ho4))
            go_roundw
            case rel =>
              refine ⟨j + 1, by go_num, ⟨by omega⟩, ⟨by rw [HT.out]; exact HR4.out⟩, ⟨(HCJ.out.alloc _).above HC4.out (fun q hq => ?_)⟩, ⟨?_⟩⟩
              all_goals have HB := HBJ.out
              all_goals clear HBJ
              · change q ∈ (Value.slice A j cp).ownBlock.toList at hq
                rcases HB with h | ⟨g, h, h2⟩
                · rw [h] at hq; exact .inl (by simpa using hq)
                · rw [h] at hq
                  have : q = g := by simpa using hq
                  exact .inr (by omega)
              · rcases (show v4.ownBlock = (Value.slice A j cp).ownBlock ∨ v4.ownBlock = some (wr.alloc (.cells #[.int .i64 y] 3)).heap.size from HO4.out) with h | h
                · rw [h]; exact HB
                · refine .inr ⟨_, h, ?_⟩
                  rw [size_alloc]
                  have := HCJ.out.size
                  omega
            case measure => simp [intOf]; omega
          · have hj : j = kx.length := by have := HJ.out; omega
            have hrw := HRJ.out
            obtain ⟨ix, hix⟩ : ∃ ix, ix = kx.map (idOf kw ids) := ⟨_, rfl⟩
            rw [hj, List.take_length, show (kx.map (fun u => Value.int .i64 (idOf kw ids u))) = (kx.map (idOf kw ids)).map (Value.int .i64) by rw [List.map_map]; rfl, ← hix] at hrw
            have hil : ix.length = kx.length := by rw [hix, List.length_map]
            obtain ⟨gx, cx, e, hcx⟩ := own_slice (n := ix.length) hrw (by intro q; have := congrArg List.length q; rw [List.length_map, List.length_nil, hil, HLX.out] at this; omega) (List.length_map _)
            subst e
            have HCX6 := Aside0.mk hcx
            have HGX : Aside0 (gx ≠ w.heap.size + 2) := ⟨by
              have := HSZ3.out
              rcases HBJ.out with h | ⟨g, h, h2⟩
              · injection h with h; dsimp only at h; omega
              · injection h with h; dsimp only at h; omega⟩
            have HSZX : Aside0 (w.heap.size + 3 ≤ wr.heap.size) := ⟨by have := HSZ3.out; have := HCJ.out.size; omega⟩
            have HC6' : Aside0 (Chg [gk, gi] w wr) := ⟨HC3.out.above HCJ.out (by simp)⟩
            have HA6 := Aside0.mk ((HA2.out.chg HG2.out (by simp; omega) (by simp; omega)).chg HCJ.out (by simp; omega) (by simp; omega))
            have HKX6 := Aside0.mk (HKX.out.chg HCJ.out (fun g hg => by cases hg; simpa using H.out.ne))
            have HIL : Aside0 (ix.length = kx.length) := ⟨hil⟩
            have HID : Aside0 (∀ x, x < kx.length → ix.getD x 0 = idOf kw ids (wd kx x)) := ⟨fun x hx => by
              rw [hix]
              rw [List.getD_eq_getElem?_getD, List.getElem?_map, List.getElem?_eq_getElem hx, wd_get kx hx]; rfl⟩
            have HBI : Aside0 (∀ x ∈ ix, 0 ≤ x ∧ x ≤ 1100000) := ⟨fun x hx => by
              rw [hix] at hx
              obtain ⟨u, _, rfl⟩ := List.mem_map.1 hx
              unfold idOf
              rw [List.getD_eq_getElem?_getD]
              cases hg : ids[kw.idxOf u]? with
              | none => simp
              | some y => exact H.out.ids2 y (List.mem_of_getElem? hg)⟩
            have k1 : decide (j < kw.length) = false := decide_eq_false (by rw [← HLX.out]; exact hlt)
            have k2 : decide ((j:Int) < (kw.length:Int)) = false := decide_eq_false (by rw [← HLX.out]; omega)
            have HI6 : Aside0 (ORow wr 3 (.slice (some ⟨gx, 0, none⟩) ix.length cx) (ix.map (Value.int .i64))) := ⟨hrw⟩
            clear hj hrw hcx hix hil HRJ HBJ HJ HCJ HG2 HA2 HFG HC3 HI3 HSZ3 HKX
            have HKX := HKX6
            obtain ⟨w6, rfl⟩ : ∃ w6, w6 = wr := ⟨_, rfl⟩
            have HL : Aside0 (kx.length = kw.length) := ⟨HP.out.length_eq⟩
            have hgX : w.heap.size + 3 ≤ w6.heap.size := HSZX.out
            have HB3 : Aside0 (∀ w3, w3 = w6.alloc (.cells (madeCells #[.int .i64 0] (kw.length * 1)) 3) → w3.heap[w6.heap.size]? = some (.cells (brow kw.length 0) 3 (0, 0))) := ⟨fun w3 e => by rw [e, heap_alloc_new, brow_zero]⟩
            go_wp2_with (at_make; refine wpList_make rfl _ _ _ rfl 3 (.int .i64 0) 1 8 Try.underlying23 info3 .i64 .i64 (kw.length : Int) (kw.length : Int) rfl rfl (by omega) (by omega) (by omega) (by omega) ?_; intro w3 e3; have HR3 := Aside0.mk (HB3.out w3 e3); have HC3 : Aside0 (Chg [] w6 w3) := ⟨by rw [e3]; exact (Chg.refl [] w6).alloc _⟩; clear e3 HB3)
            go_loopw [67] (fun v67 wr => ∃ i : Nat, v67 = .int .i64 i ∧ Aside0 (i ≤ kw.length) ∧ Aside0 (wr.heap[w6.heap.size]? = some (.cells (brow kw.length i) 3 (0, 0))) ∧ Aside0 (Chg [w6.heap.size] w3 wr)) (fun v67 _ => kw.length - (intOf v67).toNat)
            case atStart => exact ⟨0, rfl, ⟨Nat.zero_le _⟩, HR3, ⟨Chg.refl _ _⟩⟩
            case round =>
              clear HR3
              obtain ⟨i, rfl, HI0, HR, HCR⟩ := hrel
              by_cases hlt : i < kw.length
              · have c1 : wr.cell? ⟨w6.heap.size, i, none⟩ = some (.int .i64 0) := by
                  simp [World.cell?, HR.out, brow_get, hlt]
                have f1 : wr.frozen? ⟨w6.heap.size, i, none⟩ = false := by simp [World.frozen?, HR.out]
                have k1 : decide ((0:Int) ≤ (i:Int)) = true := decide_eq_true (by omega)
                have k2 : decide ((i:Int) < (kw.length:Int)) = true := decide_eq_true (by omega)
                have HR4 : Aside0 ((wr.setCell ⟨w6.heap.size, i, none⟩ (.int .i64 i)).heap[w6.heap.size]? = some (.cells (brow kw.length (i + 1)) 3 (0, 0))) := ⟨by
                  have := heap_put wr ⟨w6.heap.size, i, none⟩ _ _ _ (.int .i64 i) HR.out rfl
                  rw [this, brow_set]⟩
                go_wp2_with fail
                go_roundw
                case rel => exact ⟨i + 1, by go_num, ⟨by omega⟩, HR4, ⟨HCR.out.setCell (.inl (by simp)) _⟩⟩
                case measure => simp [intOf]; omega
              · have hi : i = kw.length := by have := HI0.out; omega
                have hrow := HR.out
                rw [hi] at hrow
                have k1 : decide (i < kw.length) = false := decide_eq_false hlt
                have k2 : decide ((i:Int) < (kw.length:Int)) = false := decide_eq_false (by omega)
                have hcx : Chg [w6.heap.size] w6 wr := (HC3.out.mono (by simp)).trans HCR.out
                have hcx0 : Chg [] w6 wr := hcx.above (Chg.refl [] _) (by simp) |> fun q => ⟨q.os, q.tape, q.output, q.size, fun j hj _ => hcx.block j hj (by simp; omega)⟩
                have hfit : Fit kx 41 0 (List.range kx.length) := fit_of kx HSX.out 40 (fun s hs => H.out.sz s (HP.out.mem_iff.1 hs)) (fun s hs => H.out.nz s (HP.out.mem_iff.1 hs)) 41 0 _ (by rw [HL.out]; intro e; have := congrArg List.length e; rw [List.length_range, List.length_nil] at this; omega) (List.pairwise_lt_range) (fun x hx => ⟨by simpa using hx, Nat.zero_le _⟩) (fun _ _ _ _ j hj => by omega) (by omega)
                have HFIT := Aside0.mk hfit
                have HAD := Aside0.mk (add_calls kx ix 41 wr (w.heap.size + 1) (w.heap.size + 2) 51200 (B0 51200) (C0 51200) 0 0 (List.range kx.length) w6.heap.size kw.length gk ck gx cx [] ⟨HA6.out.chg hcx0 (by simp) (by simp), by rw [HL.out]; exact brow_row hrow, by
                  have := HKX.out.chg hcx0 (fun _ _ => by simp)
                  exact RowAt.of_row this, by
                  have := HI6.out.chg hcx0 (fun _ _ => by simp)
                  exact RowAt.of_row this, ⟨by omega, by omega, HGX.out⟩, ⟨by rw [List.length_range, HL.out]; exact Nat.le_refl _, by rw [HL.out]; exact hkc, HCX6.out⟩, by omega, by omega, inv_init 51200 (by omega), fun r a b c => by have := C0_neg 51200 r a b; omega, by
                  have := cnt_le kx (fun s hs => H.out.sz s (HP.out.mem_iff.1 hs)) (List.range kx.length)
                  rw [List.length_range, HL.out] at this
                  rw [HL.out]
                  simp only [List.length_nil]
                  omega, by rw [List.length_range, HL.out]; exact hmost, by omega, .inl rfl, fun _ => ⟨rfl, fun r a b => C0_neg 51200 r a b⟩, fun r a b => by have := C0_neg 51200 r a b; omega, hfit, by omega, by rw [HL.out]; exact hmost, HIL.out, HBI.out, fun s hs => by have := H.out.sz s (HP.out.mem_iff.1 hs); omega, fun s hs => H.out.nz s (HP.out.mem_iff.1 hs)⟩)
                rw [List.length_range, HL.out] at HAD
                have HCX := Aside0.mk hcx0
                clear hi hrow hcx hcx0 hfit HI0 HR
                go_wp2_with fail
                refine HAD.out.mono ?_
                rintro e w4 ⟨rfl, B4, C4, ha4, hc4, hA4⟩
                have HC5 : Aside0 (Chg [gk, gi] w w4) := ⟨by
                  have h1 : Chg [gk, gi] w w6 := HC6'.out
                  exact (h1.above HCX.out (by simp)).above hc4 (fun q hq => .inr (by rw [List.mem_singleton.1 hq]; omega))⟩
                have HSZ4 : Aside0 (w6.heap.size ≤ w4.heap.size) := ⟨Nat.le_trans HCX.out.size hc4.size⟩
                have HA4 := Aside0.mk ha4
                have HAA := Aside0.mk hA4
                clear ha4 hc4 hA4 HAD HCX
                go_wp2_with fail
                refine (truncate_calls w4 _ _ _ _ _ HA4.out (by omega)).mono ?_
                rintro e w5 ⟨rfl, m, b', hm1, hm2, ha5, hc5, hs5⟩
                have HC6 : Aside0 (Chg [gk, gi] w w5) := ⟨HC5.out.above hc5 (fun q hq => .inr (by rw [List.mem_singleton.1 hq]; omega))⟩
                have HA5 := Aside0.mk ha5
                have hcell := ha5.cell
                have HTR : Aside0 (TrieOk kw ids m B4 C4) := ⟨by
                  have hAA := HAA.out
                  rw [← HL.out] at hAA
                  exact trie_ok hAA hm1 hm2 HFIT.out HP.out H.out.nd HID.out H.out.ids2 H.out.len H.out.nz⟩
                have HM1 := Aside0.mk hm1
                have HBB : Aside0 (w.heap.size ≤ b') := ⟨by have := HSZ4.out; rcases hs5 with q | q <;> omega⟩
                clear ha5 hc5 hm1 hm2 HA4 HAA HC5 hs5
                go_wp2_with fail
                go_ret2
                exact ⟨_, rfl, b', m, B4, C4, rfl, HA5.out.row, HBB.out, by have := HM1.out; omega, HTR.out, HC6.out⟩
end Go.Proofs.Ytddcjmdcpkmnjaa.Da
namespace Go.Proofs.Ytddcjmdcpkmnjaa.Gn
open Go.RowKit Go.Proofs.YtddcjmdcpkmnjaaW.PrintWords Go.Proofs.YtddcjmdcpkmnjaaW.PrintLast Go.Proofs.YtddcjmdcpkmnjaaW.PrintMore
/-- 'append(s, x...)' where x is a row that came in. -/
theorem wpList_appendAll {P : Program} {α : Type} {enc : α → Value} {he : ∀ x, (enc x).oneCell' = true} {w : World} {ops : Array Oper} {rest : List Oper} {o : Oper} {a : Act} {Q : Exit → Act → World → Prop} (hgd : o.guard = none) (s x : Operand) (t : TypeId)
    (ho : o.op = .call { callee := .builtin .append, args := #[s, x], argTypes := #[t, t] })
    (e : TypeId) (z : Value) (bytes : Nat) (ht : P.underlying t = some (.slice e)) (hi : (P.info? e).map (fun i => (i.zero, i.size, i.bytes)) = some (some z, 1, bytes)) (hzs : z.cells.size = 1)
    (v : Value) (xs : List Value) (hs : a.eval s = v) (hown : ORow w e v xs)
    (A : Option Addr) (c : Nat) (ys : List α) (hx : a.eval x = .slice A ys.length c) (hC : (Kd.scalar enc he).C w A ys.length ys) (hne : 0 < ys.length)
    (hl : (xs.length + ys.length) * bytes ≤ 140737488355328) (hl2 : xs.length + ys.length ≤ maxLen)
    (h : ∀ v' w', ORow w' e v' (xs ++ ys.map enc) → Chg v.ownBlock.toList w w' → (v'.ownBlock = v.ownBlock ∨ v'.ownBlock = some w.heap.size) → wpList P ops Q rest (a.put o.dst v') w') :
    wpList P ops Q (o :: rest) a w := by
  obtain ⟨i, hi1, hi2, hi3, hi4⟩ := info_parts hi
  obtain ⟨_, _, hcc⟩ := hC
  obtain ⟨ad, rfl, hcells⟩ := hcc hne
  refine wpList_append_own_at w hgd s x t ho 0 e i z 1 bytes ht hi1 hi2 hi3 hi4 hzs (by omega) v xs.length xs hs hown ad ys.length c (ys.map enc) hx (by simp) (fun j u hj => ?_) (fun u hu => ?_) hl2 hl (Nat.zero_le _) ?_
  · rw [List.getElem?_map] at hj
    obtain ⟨p, hp, rfl⟩ := Option.map_eq_some_iff.1 hj
    obtain ⟨cs, h1, h2, h3⟩ := hcells j p hp
    have h2 : cs = [enc p] := h2
    have := h3 0 (enc p) (by rw [h2]; rfl)
    have e1 : j * 1 + 0 = j := by omega
    have this : w.cell? (ad.add (j * 1 + 0)) = some (enc p) := this
    rwa [e1] at this
  · obtain ⟨p, _, rfl⟩ := List.mem_map.1 hu
    exact he p
  · intro v' w' h2 h3 _ h5
    exact h v' w' (by unfold ORow; simpa using h2) (grownBy_chg h3) h5
theorem ORow.made0 (w : World) (e : Nat) : ORow (w.alloc (.cells #[] e)) e (.slice (some ⟨w.heap.size, 0, none⟩) 0 0) [] :=
  ORow.of (xs := []) (cap := 0) (heap_alloc_new _ _) (Nat.le_refl _) (by unfold maxLen; omega) rfl rfl
end Go.Proofs.Ytddcjmdcpkmnjaa.Gn
namespace Go.Proofs.Ytddcjmdcpkmnjaa.Da
open Go.RowKit Go.Proofs.YtddcjmdcpkmnjaaW.PrintWords Go.Proofs.YtddcjmdcpkmnjaaW.PrintLast Go.Proofs.YtddcjmdcpkmnjaaW.PrintMore Go.Proofs.Ytddcjmdcpkmnjaa.Gn
theorem info9 : (Try.prog.info? 9).map (fun i => (i.zero, i.size, i.bytes)) = some (some (.string ⟨#[]⟩), 1, 16) := by kernel_rfl
/-- Words and numbers that make a double array. -/
structure Good (kw : List ByteArray) (ids : List Int) : Prop where
  len : ids.length = kw.length
  pos : 0 < kw.length
  most : kw.length ≤ 30
  nd : kw.Nodup
  ids2 : ∀ x ∈ ids, 0 ≤ x ∧ x ≤ 1100000
  sz : ∀ s ∈ kw, s.size ≤ 40
  nz : ∀ s ∈ kw, ∀ j, j < s.size → (s.get! j).toNat ≠ 0
/-- From 1 on. -/
def nums (n : Nat) : List Int := (List.range n).map fun i : Nat => (i : Int) + 1
def nrow (L i : Nat) : Array Value := Array.ofFn (n := L) fun q => .int .i64 (if q.val < i then (q.val : Int) + 1 else 0)
theorem nrow_get (L i q : Nat) : (nrow L i)[q]? = if q < L then some (.int .i64 (if q < i then (q : Int) + 1 else 0)) else none := by
  by_cases h : q < L
  · rw [if_pos h]; simp [nrow, h]
  · rw [if_neg h]; simp [nrow]; omega
theorem nrow_zero (L : Nat) : madeCells #[.int .i64 0] (L * 1) = nrow L 0 := by
  apply Array.ext_getElem?
  intro q
  rw [nrow_get]
  unfold madeCells
  by_cases h : q < L
  · rw [if_pos h, Array.getElem?_map, Array.getElem?_range, if_pos (by omega)]
    simp [Nat.mod_one]
  · rw [if_neg h, Array.getElem?_eq_none (by simp; omega)]
theorem nrow_set (L i : Nat) : (nrow L i).setIfInBounds i (.int .i64 ((i : Int) + 1)) = nrow L (i + 1) := by
  apply Array.ext_getElem?
  intro q
  rw [Array.getElem?_setIfInBounds, nrow_get, nrow_get]
  by_cases e : i = q
  · subst e
    rw [if_pos rfl]
    have : (nrow L i).size = L := by simp [nrow]
    rw [this]
    by_cases h : i < L
    · rw [if_pos h, if_pos h, if_pos (by omega)]
    · rw [if_neg h, if_neg h]
  · rw [if_neg e]
    by_cases h : q < L
    · rw [if_pos h, if_pos h]
      by_cases h2 : q < i
      · rw [if_pos h2, if_pos (by omega)]
      · rw [if_neg h2, if_neg (by omega)]
    · rw [if_neg h, if_neg h]
theorem nrow_row {w : World} {g L : Nat} (h : w.heap[g]? = some (.cells (nrow L L) 3 (0, 0))) (hL : L ≤ 1000) : ORow w 3 (.slice (some ⟨g, 0, none⟩) (nums L).length L) ((nums L).map (Value.int .i64)) := by
  have hl : ((nums L).map (Value.int .i64)).length = L := by simp [nums]
  have e1 : (nums L).length = ((nums L).map (Value.int .i64)).length := by simp
  rw [e1]
  refine ORow.of h (by omega) (by unfold maxLen; omega) (by simp [nrow]) ?_
  rw [hl]
  apply List.ext_getElem?
  intro j
  rw [List.getElem?_take, Array.getElem?_toList, nrow_get]
  by_cases hj : j < L
  · simp [hj, nums]
  · rw [if_neg hj, List.getElem?_eq_none (by omega)]
theorem Built.from {w w1 w' : World} {S : List Nat} {kw : List ByteArray} {ids : List Int} {v : Value} {T : List Nat} (h : Built w1 w' S kw ids v) (hc : Chg T w w1) (hs : ∀ g ∈ S, g ∈ T ∨ w.heap.size ≤ g) : Built w w' T kw ids v := by
  obtain ⟨b, m, B, C, h1, h2, h3, h4, h5, h6⟩ := h
  exact ⟨b, m, B, C, h1, h2, Nat.le_trans hc.size h3, h4, h5, hc.above h6 hs⟩
set_option maxHeartbeats 2000000 in
set_option maxRecDepth 100000 in
theorem sbuild_calls (w : World) (gk ck : Nat) (kw : List ByteArray) (hk : ORow w 9 (.slice (some ⟨gk, 0, none⟩) kw.length ck) (kw.map Value.string)) (hg : Good kw (nums kw.length)) :
    Calls Try.prog 42 #[.slice (some ⟨gk, 0, none⟩) kw.length ck] w fun e w' => ∃ v, e = .returned (.tuple #[v, .nilIface]) ∧ Built w w' [gk] kw (nums kw.length) v := by
  have HK := Aside0.mk hk
  have HG := Aside0.mk hg
  have hpos := hg.pos
  have hmost := hg.most
  have hgk : gk < w.heap.size := (hk.block rfl).1
  have q3 : (((kw.length : Nat) : Int) == 0) = false := beq_eq_false_iff_ne.2 (by omega)
  have q4 : (kw.length == 0) = false := beq_eq_false_iff_ne.2 (by omega)
  have HB3 : Aside0 (∀ w3, w3 = w.alloc (.cells (madeCells #[.int .i64 0] (kw.length * 1)) 3) → w3.heap[w.heap.size]? = some (.cells (nrow kw.length 0) 3 (0, 0))) := ⟨fun w3 e => by rw [e, heap_alloc_new, nrow_zero]⟩
  clear hk hg
  go_enter Try.func42, Try.ntmps42
  go_wp2_with (at_make; refine wpList_make rfl _ _ _ rfl 3 (.int .i64 0) 1 8 Try.underlying23 info3 .i64 .i64 (kw.length : Int) (kw.length : Int) rfl rfl (by omega) (by omega) (by omega) (by omega) ?_; intro w3 e3; have HR3 := Aside0.mk (HB3.out w3 e3); have HC3 : Aside0 (Chg [] w w3) := ⟨by rw [e3]; exact (Chg.refl [] w).alloc _⟩; clear e3 HB3)
  go_loopw [16] (fun v16 wr => ∃ i : Nat, v16 = .int .i64 i ∧ Aside0 (i ≤ kw.length) ∧ Aside0 (wr.heap[w.heap.size]? = some (.cells (nrow kw.length i) 3 (0, 0))) ∧ Aside0 (Chg [w.heap.size] w3 wr)) (fun v16 _ => kw.length - (intOf v16).toNat)
  case atStart => exact ⟨0, rfl, ⟨Nat.zero_le _⟩, HR3, ⟨Chg.refl _ _⟩⟩
  case round =>
    clear HR3
    obtain ⟨i, rfl, HI0, HR, HCR⟩ := hrel
    by_cases hlt : i < kw.length
    · have c1 : wr.cell? ⟨w.heap.size, i, none⟩ = some (.int .i64 0) := by
        simp [World.cell?, HR.out, nrow_get, hlt]
      have f1 : wr.frozen? ⟨w.heap.size, i, none⟩ = false := by simp [World.frozen?, HR.out]
      have k1 : decide ((0:Int) ≤ (i:Int)) = true := decide_eq_true (by omega)
      have k2 : decide ((i:Int) < (kw.length:Int)) = true := decide_eq_true (by omega)
      have HR4 : Aside0 ((wr.setCell ⟨w.heap.size, i, none⟩ (.int .i64 ((i : Int) + 1))).heap[w.heap.size]? = some (.cells (nrow kw.length (i + 1)) 3 (0, 0))) := ⟨by
        have := heap_put wr ⟨w.heap.size, i, none⟩ _ _ _ (.int .i64 ((i : Int) + 1)) HR.out rfl
        rw [this, nrow_set]⟩
      go_wp2_with fail
      go_roundw
      case rel => exact ⟨i + 1, by go_num, ⟨by omega⟩, HR4, ⟨HCR.out.setCell (.inl (by simp)) _⟩⟩
      case measure => simp [intOf]; omega
    · have hi : i = kw.length := by have := HI0.out; omega
      have hrow := HR.out
      rw [hi] at hrow
      have k1 : decide (i < kw.length) = false := decide_eq_false hlt
      have k2 : decide ((i:Int) < (kw.length:Int)) = false := decide_eq_false (by omega)
      have hcx : Chg [w.heap.size] w wr := (HC3.out.mono (by simp)).trans HCR.out
      have hcx0 : Chg [] w wr := ⟨hcx.os, hcx.tape, hcx.output, hcx.size, fun j hj _ => hcx.block j hj (by simp; omega)⟩
      have HB := Aside0.mk (build_calls wr gk ck w.heap.size kw.length kw (nums kw.length) ⟨HK.out.chg hcx0 (by simp), nrow_row hrow (by omega), by omega, HG.out.len, hpos, hmost, HG.out.nd, HG.out.ids2, HG.out.sz, HG.out.nz⟩)
      rw [show (nums kw.length).length = kw.length from HG.out.len] at HB
      have HCX := Aside0.mk hcx0
      clear hi hrow hcx hcx0 HI0 HR
      go_wp2_with fail
      refine HB.out.mono ?_
      rintro e w4 ⟨v, rfl, hb⟩
      have HBB : Aside0 (Built w w4 [gk] kw (nums kw.length) v) := ⟨hb.from (HCX.out.mono (by simp)) (by simp)⟩
      clear hb HB HCX
      go_wp2_with fail
      go_ret2
      exact ⟨v, rfl, HBB.out⟩
def idsOr (kw : List ByteArray) (ids : List Int) : List Int := if ids.length = 0 then nums kw.length else ids
set_option maxHeartbeats 2000000 in
set_option maxRecDepth 100000 in
theorem built_calls (w : World) (A0 A1 : Option Addr) (c0 c1 : Nat) (kw : List ByteArray) (ids : List Int) (hk : Kd.C Kd.string w A0 kw.length kw) (hi : Kd.C (Kd.int .i64) w A1 ids.length ids) (hg : Good kw (idsOr kw ids)) :
    Calls Try.prog 27 #[.slice A0 kw.length c0, .slice A1 ids.length c1] w fun e w' => ∃ v, e = .returned (.tuple #[v, .nilIface]) ∧ Built w w' [] kw (idsOr kw ids) v := by
  have HK := Aside0.mk hk
  have HI := Aside0.mk hi
  have HG := Aside0.mk hg
  have hpos := hg.pos
  have hmost := hg.most
  have HR0 : Aside0 (ORow (w.alloc (.cells #[] 9)) 9 (.slice (some ⟨w.heap.size, 0, none⟩) 0 0) []) := ⟨ORow.made0 _ _⟩
  clear hk hi
  by_cases h0 : ids.length = 0
  · have hid : idsOr kw ids = nums kw.length := if_pos h0
    rw [hid] at hg HG ⊢
    clear hid
    have q1 : (((ids.length : Nat) : Int) == 0) = true := beq_iff_eq.2 (by omega)
    have q2 : (ids.length == 0) = true := beq_iff_eq.2 h0
    clear hg
    go_enter Try.func27, Try.ntmps27
    go_wp2_with (at_builtin; refine wpList_appendAll (enc := Value.string) (he := fun _ => rfl) rfl _ _ 22 rfl 9 (.string ⟨#[]⟩) 16 Try.underlying22 info9 rfl (.slice (some ⟨w.heap.size, 0, none⟩) 0 0) [] rfl HR0.out A0 c0 kw rfl ?c1 hpos ?c2 ?c3 ?_; (case c1 => exact Kd.C_below HK.out ((Below.refl _ _).alloc (Nat.le_refl _) _)); (case c2 => (simp; omega)); (case c3 => (unfold maxLen; simp; omega)); intro v2 w2 hr2 hc2 ho2; obtain ⟨gk, ck, rfl, hck⟩ := own_slice (n := kw.length) hr2 (by intro q; have := congrArg List.length q; simp only [List.nil_append, List.length_map, List.length_nil] at this; omega) (by simp); have HR2 := Aside0.mk hr2; have HC2 := Aside0.mk hc2; have HO2 := Aside0.mk ho2; clear hr2 hc2 ho2)
    have HCX : Aside0 (Chg [] w w2) := ⟨((Chg.refl [] w).alloc _).above HC2.out (fun g hg => .inr (by have : g = w.heap.size := (by simpa [Value.ownBlock] using hg); omega))⟩
    have hgk : w.heap.size ≤ gk := by
      rcases HO2.out with h | h
      · have h : gk = w.heap.size := by injection h
        omega
      · have h : gk = w.heap.size + 1 := by injection h with h; rw [size_alloc] at h; exact h
        omega
    have HB := Aside0.mk (sbuild_calls w2 gk ck kw HR2.out HG.out)
    clear HR0 HR2 HC2 HO2
    go_wp2_with fail
    refine HB.out.mono ?_
    rintro e w4 ⟨v, rfl, hb⟩
    have HBB : Aside0 (Built w w4 [] kw (nums kw.length) v) := ⟨hb.from HCX.out (fun g hg => .inr (by rw [List.mem_singleton.1 hg]; exact hgk))⟩
    clear hb HB HCX
    go_wp2_with fail
    go_ret2
    exact ⟨v, rfl, HBB.out⟩
  · have hid : idsOr kw ids = ids := if_neg h0
    rw [hid] at hg HG ⊢
    clear hid
    have q1 : (((ids.length : Nat) : Int) == 0) = false := beq_eq_false_iff_ne.2 (by omega)
    have q2 : (ids.length == 0) = false := beq_eq_false_iff_ne.2 h0
    have hil := hg.len
    have him : ids.length ≤ 30 := by omega
    have hip : 0 < ids.length := by omega
    clear hg hil
    go_enter Try.func27, Try.ntmps27
    go_wp2_with (first | (at_builtin; refine wpList_appendAll (enc := Value.string) (he := fun _ => rfl) rfl _ _ 22 rfl 9 (.string ⟨#[]⟩) 16 Try.underlying22 info9 rfl (.slice (some ⟨w.heap.size, 0, none⟩) 0 0) [] rfl HR0.out A0 c0 kw rfl ?c1 hpos ?c2 ?c3 ?_; (case c1 => exact Kd.C_below HK.out ((Below.refl _ _).alloc (Nat.le_refl _) _)); (case c2 => (simp; omega)); (case c3 => (unfold maxLen; simp; omega)); intro v2 w2 hr2 hc2 ho2; obtain ⟨gk, ck, rfl, hck⟩ := own_slice (n := kw.length) hr2 (by intro q; have := congrArg List.length q; simp only [List.nil_append, List.length_map, List.length_nil] at this; omega) (by simp); have HR2 := Aside0.mk hr2; have HC2 := Aside0.mk hc2; have HO2 := Aside0.mk ho2; clear hr2 hc2 ho2; have HCX : Aside0 (Chg [] w w2) := ⟨((Chg.refl [] w).alloc _).above HC2.out (fun g hg => .inr (by have : g = w.heap.size := (by simpa [Value.ownBlock] using hg); omega))⟩) | (at_builtin; refine wpList_appendAll (enc := Value.int .i64) (he := fun _ => rfl) rfl _ _ 23 rfl 3 (.int .i64 0) 8 Try.underlying23 info3 rfl (.slice (some ⟨w2.heap.size, 0, none⟩) 0 0) [] rfl (ORow.made0 _ _) A1 c1 ids rfl ?c1 hip ?c2 ?c3 ?_; (case c1 => exact Kd.C_below HI.out (HCX.out.toBelow (Nat.le_refl _) (by simp) |>.alloc HCX.out.size _)); (case c2 => (simp; omega)); (case c3 => (unfold maxLen; simp; omega)); intro v3 w3 hr3 hc3 ho3; obtain ⟨gi, ci, rfl, hci⟩ := own_slice (n := ids.length) hr3 (by intro q; have := congrArg List.length q; simp only [List.nil_append, List.length_map, List.length_nil] at this; omega) (by simp); have HR3 := Aside0.mk hr3; have HC3 := Aside0.mk hc3; have HO3 := Aside0.mk ho3; clear hr3 hc3 ho3))
    have HCY : Aside0 (Chg [] w w3) := ⟨(HCX.out.alloc _).above HC3.out (fun g hg => .inr (by have := HCX.out.size; have : g = w2.heap.size := (by simpa [Value.ownBlock] using hg); omega))⟩
    have hgk : w.heap.size ≤ gk ∧ gk < w2.heap.size := by
      have hlt : gk < w2.heap.size := (HR2.out.block rfl).1
      rcases HO2.out with h | h
      · have h : gk = w.heap.size := by injection h
        omega
      · have h : gk = w.heap.size + 1 := by injection h with h; rw [size_alloc] at h; exact h
        omega
    have hgi : w2.heap.size ≤ gi := by
      rcases HO3.out with h | h
      · have h : gi = w2.heap.size := by injection h
        omega
      · have h : gi = w2.heap.size + 1 := by injection h with h; rw [size_alloc] at h; exact h
        omega
    have hcz : Chg [] w2 w3 := ((Chg.refl [] w2).alloc _).above HC3.out (fun g hg => .inr (by have : g = w2.heap.size := (by simpa [Value.ownBlock] using hg); omega))
    have HB := Aside0.mk (build_calls w3 gk ck gi ci kw ids ⟨HR2.out.chg hcz (by simp), HR3.out, by omega, HG.out.len, hpos, hmost, HG.out.nd, HG.out.ids2, HG.out.sz, HG.out.nz⟩)
    clear HR0 HR2 HC2 HO2 HR3 HC3 HO3 hcz
    go_wp2_with fail
    refine HB.out.mono ?_
    rintro e w4 ⟨v, rfl, hb⟩
    have HBB : Aside0 (Built w w4 [] kw ids v) := ⟨hb.from HCY.out (fun g hg => .inr (by have := HCX.out.size; simp only [List.mem_cons, List.not_mem_nil, or_false] at hg; omega))⟩
    clear hb HB HCX HCY
    go_wp2_with fail
    go_ret2
    exact ⟨v, rfl, HBB.out⟩
end Go.Proofs.Ytddcjmdcpkmnjaa.Da
namespace Go.Proofs.Ytddcjmdcpkmnjaa.Da
open Go.RowKit Go.Proofs.YtddcjmdcpkmnjaaW.PrintWords Go.Proofs.Ytddcjmdcpkmnjaa.Gn
theorem results_tmp4 {fn : Func} {t u v x : Tmp} (h : fn.results = #[.tmp t, .tmp u, .tmp v, .tmp x]) (tmps : Array Value) (P : Program) (w : World) :
    (results fn tmps).run P w = .ok (.tuple #[tmps.getD t undef, tmps.getD u undef, tmps.getD v undef, tmps.getD x undef]) w := by
  simp [results, h]
theorem pre.shorter {s : ByteArray} {a b : Nat} {u : ByteArray} (h : pre s a u) (hb : b ≤ a) : pre s b u := ⟨Nat.le_trans hb h.1, fun i hi => h.2 i (by omega)⟩
/-- What search tells: the cell of the whole text, or that no word begins with it. -/
def Told (kw : List ByteArray) (ids : List Int) (m : Nat) (B C : Nat → Int) (s : ByteArray) (ok : Bool) (vq : Value) : Prop :=
  (ok = true → 0 < s.size ∧ ∃ t : Nat, vq = .int .i64 t ∧ On kw ids m B C s s.size t) ∧ (ok = false → s.size = 0 ∨ ∀ u ∈ kw, ¬ pre s s.size u)
def Searched (kw : List ByteArray) (ids : List Int) (m : Nat) (B C : Nat → Int) (s : ByteArray) (w : World) (e : Ending) (w' : World) : Prop :=
  ∃ vp vq vi ok, e = .returned (.tuple #[vp, vq, vi, .bool ok]) ∧ Told kw ids m B C s ok vq ∧ Drw w w'
set_option maxHeartbeats 2000000 in
set_option maxRecDepth 100000 in
theorem search_calls (w : World) (v b m : Nat) (B C : Nat → Int) (kw : List ByteArray) (ids : List Int) (s : ByteArray) (h : At w v b m B C) (hm : m ≤ 60000) (hT : TrieOk kw ids m B C) (hs : s.size ≤ 1000) (hnz : ∀ j, j < s.size → (s.get! j).toNat ≠ 0) :
    Calls Try.prog 44 #[.pointer (some ⟨v, 0, none⟩), .string s] w (Searched kw ids m B C s w) := by
  have H := Aside0.mk h
  have HT := Aside0.mk hT
  have HNZ := Aside0.mk hnz
  have d1 := h.cell
  clear h hT hnz
  by_cases hz : s.size = 0
  · have q1 : ((s.size : Int) == 0) = true := beq_iff_eq.2 (by omega)
    have q2 : (s.size == 0) = true := beq_iff_eq.2 hz
    have HZ := Aside0.mk hz
    clear hz
    go_enter Try.func44, Try.ntmps44
    go_wp2_with fail
    (try simp only [Exit.inBlock, Exit.then]); refine bodyPost_ret (results_tmp4 rfl _ _ _) rfl ?_
    exact ⟨_, _, _, _, rfl, ⟨fun h => (by cases h), fun _ => .inl HZ.out⟩, Drw.refl w⟩
  · have q1 : ((s.size : Int) == 0) = false := beq_eq_false_iff_ne.2 (by omega)
    have q2 : (s.size == 0) = false := beq_eq_false_iff_ne.2 hz
    have hz0 : 0 < s.size := by omega
    clear hz
    go_enter Try.func44, Try.ntmps44
    go_wp2_with fail
    go_loopw [5, 18] (fun v5 v18 wr => ∃ j t : Nat, v18 = .int .i64 j ∧ v5 = .int .i64 t ∧ Aside0 (j ≤ s.size) ∧ Aside0 (On kw ids m B C s j t) ∧ Aside0 (Drw w wr)) (fun _ v18 _ => s.size - (intOf v18).toNat)
    case atStart => exact ⟨0, 0, rfl, rfl, ⟨Nat.zero_le _⟩, ⟨On.start HT.out s⟩, ⟨Drw.refl w⟩⟩
    case round =>
      clear d1
      obtain ⟨j, t, rfl, rfl, HJ, HO, HD⟩ := hrel
      have HA := Aside0.mk (HD.out.at H.out)
      by_cases hlt : j < s.size
      · have htm := HO.out.lt
        have hb0 := HNZ.out j hlt
        obtain ⟨c, hc⟩ : ∃ c, c = (s.get! j).toNat := ⟨_, rfl⟩
        have hch : chAt s j = c := by unfold chAt; rw [if_pos hlt, hc]
        obtain ⟨base, e1, e2, e3, e4, e5⟩ := HO.out.step (by rw [hch, hc]; exact hb0)
        rw [hch] at e4 e5
        have HC := Aside0.mk hc
        have E4 := Aside0.mk e4
        have E5 := Aside0.mk e5
        have d1 := HA.out.cell
        have d2 := HA.out.base t htm
        rw [e1] at d2
        have hcs : (s[j]'hlt).toNat = c := by rw [hc]; show _ = (s.data[j]!).toNat; rw [getElem!_pos s.data j hlt]; rfl
        have hc0 : 0 < c := by omega
        have hc255 : c < 256 := by rw [← hcs]; exact UInt8.toNat_lt _
        have k1 : ((c:Int) == 0) = false := beq_eq_false_iff_ne.2 (by omega)
        have k2 : (c == 0) = false := beq_eq_false_iff_ne.2 (by omega)
        clear e1 e4 e5 hch hc hb0
        by_cases hu : ∃ u ∈ kw, pre s (j + 1) u
        · obtain ⟨g1, g2, g3⟩ := E4.out hu
          have d3 := HA.out.check (base + c) g1
          rw [g2] at d3
          have HO2 := Aside0.mk g3
          clear g2 g3 E4 E5
          go_wp2_with fail
          have r1 : decide ((0:Int) ≤ (t:Int)) = true := decide_eq_true (by omega)
          have r2 : decide ((t:Int) < (m:Int)) = true := decide_eq_true (by omega)
          have r3 : (t:Int) < (m:Int) := by omega
          have r4 : (0:Int) ≤ (t:Int) := by omega
          have r5 : (j:Int) < (s.size:Int) := by omega
          have r6 : (0:Int) ≤ (j:Int) := by omega
          refine still_tail 13 (by kernel_rfl) (by kernel_rfl) ?_
          intro w2 e2
          have HD2 : Aside0 (Drw w w2) := ⟨by rw [e2]; exact HD.out.drewN 1⟩
          have HA2 : Aside0 (At w2 v b m B C) := ⟨by rw [e2]; exact HA.out.drew⟩
          have d3 := d3
          rw [show wr.cell? = w2.cell? by rw [e2]; rfl] at d1 d2 d3
          clear e2
          simp only [List.take_succ_cons, List.take_zero, List.drop_succ_cons, List.drop_zero]
          repeat still_step
          refine wpStill_nil ?_
          go_wp2_with fail
          go_roundw
          case rel => exact ⟨j + 1, base + c, by go_num, by go_num, ⟨by omega⟩, HO2, HD2⟩
          case measure => simp [intOf]; omega
        · have hno := E5.out hu
          have HU : Aside0 (∀ u ∈ kw, ¬ pre s s.size u) := ⟨fun u hu1 hp => hu ⟨u, hu1, hp.shorter (by omega)⟩⟩
          clear E4 E5 hu
          by_cases hbm : base + c < m
          · have d3 := HA.out.check (base + c) hbm
            have hne : C (base + c) ≠ (t:Int) := fun q => hno ⟨hbm, q⟩
            obtain ⟨cv, hcv⟩ : ∃ cv, cv = C (base + c) := ⟨_, rfl⟩
            have hcb := HT.out.cb _ hbm
            rw [← hcv] at d3 hne hcb
            have hw : wrap64 cv = cv := by unfold wrap64; omega
            have HCB := Aside0.mk hcb
            have n1 : (cv != (t:Int)) = true := bne_iff_ne.2 hne
            have n2 : (cv == (t:Int)) = false := beq_eq_false_iff_ne.2 hne
            clear hno hcv hcb
            go_wp2_with fail
            have r1 : decide ((0:Int) ≤ (t:Int)) = true := decide_eq_true (by omega)
            have r2 : decide ((t:Int) < (m:Int)) = true := decide_eq_true (by omega)
            have r3 : (t:Int) < (m:Int) := by omega
            have r4 : (0:Int) ≤ (t:Int) := by omega
            have r5 : (j:Int) < (s.size:Int) := by omega
            have r6 : (0:Int) ≤ (j:Int) := by omega
            refine still_tail 13 (by kernel_rfl) (by kernel_rfl) ?_
            intro w2 e2
            have HD2 : Aside0 (Drw w w2) := ⟨by rw [e2]; exact HD.out.drewN 1⟩
            have HA2 : Aside0 (At w2 v b m B C) := ⟨by rw [e2]; exact HA.out.drew⟩
            have d3 := d3
            rw [show wr.cell? = w2.cell? by rw [e2]; rfl] at d1 d2 d3
            clear e2
            simp only [List.take_succ_cons, List.take_zero, List.drop_succ_cons, List.drop_zero]
            repeat still_step
            refine wpStill_nil ?_
            go_wp2_with fail
            (try simp only [Exit.inBlock, Exit.then]); refine bodyPost_ret (results_tmp4 rfl _ _ _) rfl ?_
            exact ⟨_, _, _, _, rfl, ⟨fun h => (by cases h), fun _ => .inr HU.out⟩, HD2.out⟩
          · clear hno
            have d3 := d2
            go_wp2_with fail
            have r1 : decide ((0:Int) ≤ (t:Int)) = true := decide_eq_true (by omega)
            have r2 : decide ((t:Int) < (m:Int)) = true := decide_eq_true (by omega)
            have r3 : (t:Int) < (m:Int) := by omega
            have r4 : (0:Int) ≤ (t:Int) := by omega
            have r5 : (j:Int) < (s.size:Int) := by omega
            have r6 : (0:Int) ≤ (j:Int) := by omega
            refine still_tail 13 (by kernel_rfl) (by kernel_rfl) ?_
            intro w2 e2
            have HD2 : Aside0 (Drw w w2) := ⟨by rw [e2]; exact HD.out.drewN 1⟩
            have HA2 : Aside0 (At w2 v b m B C) := ⟨by rw [e2]; exact HA.out.drew⟩
            have d3 := d3
            rw [show wr.cell? = w2.cell? by rw [e2]; rfl] at d1 d2 d3
            clear e2
            simp only [List.take_succ_cons, List.take_zero, List.drop_succ_cons, List.drop_zero]
            repeat still_step
            refine wpStill_nil ?_
            go_wp2_with fail
            (try simp only [Exit.inBlock, Exit.then]); refine bodyPost_ret (results_tmp4 rfl _ _ _) rfl ?_
            exact ⟨_, _, _, _, rfl, ⟨fun h => (by cases h), fun _ => .inr HU.out⟩, HD2.out⟩
      · have k1 : decide (j < s.size) = false := decide_eq_false hlt
        have k2 : decide ((j:Int) < (s.size:Int)) = false := decide_eq_false (by omega)
        go_wp2_with fail
        (try simp only [Exit.inBlock, Exit.then]); refine bodyPost_ret (results_tmp4 rfl _ _ _) rfl ?_
        refine ⟨_, _, _, _, rfl, ⟨fun _ => ⟨hz0, t, rfl, ?_⟩, fun h => (by cases h)⟩, HD.out⟩
        have hj : j = s.size := by have := HJ.out; omega
        rw [← hj]; exact HO.out
end Go.Proofs.Ytddcjmdcpkmnjaa.Da
namespace Go.Proofs.Ytddcjmdcpkmnjaa.Da
open Go.RowKit Go.Proofs.YtddcjmdcpkmnjaaW.PrintWords Go.Proofs.Ytddcjmdcpkmnjaa.Gn
def find (kw : List ByteArray) (ids : List Int) (s : ByteArray) : Int × Bool := if s.size = 0 then (0, false) else if s ∈ kw then (idOf kw ids s, true) else (0, kw.any fun u => decide (pre s s.size u))
def FindPost (kw : List ByteArray) (ids : List Int) (s : ByteArray) (w : World) (e : Ending) (w' : World) : Prop :=
  ∃ x ok, e = .returned (.tuple #[.int .i64 x, .bool ok]) ∧ (x, ok) = find kw ids s ∧ Chg [] w w'
theorem On.some {kw : List ByteArray} {ids : List Int} {m : Nat} {B C : Nat → Int} {s : ByteArray} {t p : Nat} (h : On kw ids m B C s t p) : ∃ u ∈ kw, pre s t u := by
  obtain ⟨n, F, k, kw', ids', h1, h2, h3, h4, h5, h6, h7, h8, h9, h10, h11, h12⟩ := h.ex
  cases k with
  | zero => exact h5.elim
  | succ k =>
    obtain ⟨x, hx⟩ := List.exists_mem_of_ne_nil _ h6.1
    obtain ⟨hx1, hx2⟩ := mem_brs.1 hx
    exact ⟨wd kw' x, h1.mem_iff.1 (by rw [wd_get kw' hx1]; exact List.getElem_mem _), hx2⟩
theorem pre_self (s : ByteArray) : pre s s.size s := ⟨Nat.le_refl _, fun _ _ => rfl⟩
theorem extract_self (s : ByteArray) : s.extract 0 s.size = s := ((pre_whole s s.size (Nat.le_refl _) s).1 ⟨pre_self s, rfl⟩).symm
theorem Built.at {w : World} {b m : Nat} {B C : Nat → Int} (h : w.heap[b]? = some (.cells (row m B C) 71 (0, 0))) :
    At (w.alloc (.cells #[.slice (some ⟨b, 0, none⟩) m m] 48)) w.heap.size b m B C := by
  have hb : b < w.heap.size := (Array.getElem?_eq_some_iff.1 h).1
  exact ⟨by omega, heap_alloc_new _ _, (Below.heap_alloc w _ b hb).trans h⟩
set_option maxHeartbeats 2000000 in
set_option maxRecDepth 100000 in
theorem find_calls (w : World) (b m : Nat) (B C : Nat → Int) (kw : List ByteArray) (ids : List Int) (s : ByteArray) (h : w.heap[b]? = some (.cells (row m B C) 71 (0, 0))) (hm : m ≤ 60000) (hT : TrieOk kw ids m B C) (hs : s.size ≤ 1000) (hnz : ∀ j, j < s.size → (s.get! j).toNat ≠ 0) :
    Calls Try.prog 28 #[.slice (some ⟨b, 0, none⟩) m m, .string s] w (FindPost kw ids s w) := by
  have HA := Aside0.mk (Built.at h)
  have HT := Aside0.mk hT
  have HC := Aside0.mk (show Chg [] w (w.alloc (.cells #[.slice (some ⟨b, 0, none⟩) m m] 48)) from (Chg.refl [] w).alloc _)
  have HS := Aside0.mk (search_calls _ _ b m B C kw ids s HA.out hm hT hs hnz)
  clear h hT hnz
  go_enter Try.func28, Try.ntmps28
  go_wp2_with fail
  refine HS.out.mono ?_
  rintro e w2 ⟨vp, vq, vi, ok, rfl, hT1, hD⟩
  have HA2 := Aside0.mk (hD.at HA.out)
  have HC2 := Aside0.mk (HC.out.above (hD.chg []) (by simp))
  clear HS HA HC hD
  cases ok with
  | false =>
    have HF : Aside0 ((0, false) = find kw ids s) := ⟨by
      unfold find
      by_cases hz : s.size = 0
      · rw [if_pos hz]
      · rw [if_neg hz]
        have hno := (hT1.2 rfl).resolve_left hz
        rw [if_neg (fun g => hno s g (pre_self s))]
        have : (kw.any fun u => decide (pre s s.size u)) = false := by
          rw [List.any_eq_false]
          intro u hu
          simpa using hno u hu
        rw [this]⟩
    clear hT1
    go_wp2_with fail
    go_ret2
    exact ⟨_, _, rfl, HF.out, HC2.out⟩
  | true =>
    obtain ⟨hz, t, rfl, hO⟩ := hT1.1 rfl
    have htm := hO.lt
    obtain ⟨base, e1, e2, e3, e4, e5⟩ := hO.term (Nat.le_refl _)
    rw [extract_self] at e4 e5
    have d1 := HA2.out.cell
    have d2 := HA2.out.base t htm
    rw [e1] at d2
    have hsome := hO.some
    clear hT1 e1 hO
    by_cases hu : s ∈ kw
    · obtain ⟨g1, g2, g3, g4, g5⟩ := e4 hu
      have d3 := HA2.out.check base g1
      have d4 := HA2.out.base base g1
      rw [g2] at d3
      obtain ⟨y, hy⟩ : ∃ y, y = idOf kw ids s := ⟨_, rfl⟩
      rw [g3, ← hy] at d4
      rw [← hy] at g4 g5
      have HF : Aside0 ((y, true) = find kw ids s) := ⟨by unfold find; rw [if_neg (by omega), if_pos hu, hy]⟩
      clear e4 e5 g2 g3 hy hu
      have k1 : decide (0 < -y) = false := decide_eq_false (by omega)
      go_wp2_with fail
      go_ret2
      exact ⟨_, _, rfl, HF.out, HC2.out⟩
    · have hno := e5 hu
      have HF : Aside0 ((0, true) = find kw ids s) := ⟨by
        unfold find
        rw [if_neg (by omega), if_neg hu]
        have : (kw.any fun u => decide (pre s s.size u)) = true := by
          obtain ⟨u, hu1, hu2⟩ := hsome
          rw [List.any_eq_true]
          exact ⟨u, hu1, by simpa using hu2⟩
        rw [this]⟩
      clear e4 e5 hu
      by_cases hbm : base < m
      · have d3 := HA2.out.check base hbm
        have hne : C base ≠ (t:Int) := fun q => hno ⟨hbm, q⟩
        have hcb := HT.out.cb _ hbm
        obtain ⟨cv, hcv⟩ : ∃ cv, cv = C base := ⟨_, rfl⟩
        rw [← hcv] at d3 hne hcb
        have n1 : (cv != (t:Int)) = true := bne_iff_ne.2 hne
        have n2 : (cv == (t:Int)) = false := beq_eq_false_iff_ne.2 hne
        have hw : wrap64 cv = cv := by unfold wrap64; omega
        clear hno hcv hcb
        go_wp2_with fail
        go_ret2
        exact ⟨_, _, rfl, HF.out, HC2.out⟩
      · clear hno
        go_wp2_with fail
        go_ret2
        exact ⟨_, _, rfl, HF.out, HC2.out⟩
end Go.Proofs.Ytddcjmdcpkmnjaa.Da
