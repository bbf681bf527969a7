/- Contents out of a text: the text turned to bytes, then cut at its line feeds, and each row at its bells. -/
import Derived.Test.YthecfligfhpccaaP24
import Derived.Test.YthecfligfhpccaaXLaws
import Derived.Laws.IdiomStrings
set_option linter.unusedVariables false
namespace Go.Proofs.Ythecfligfhpccaa.P
open Go.RowKit Go.Proofs.YthecfligfhpccaaW.PrintWords Go.Proofs.YthecfligfhpccaaW.PrintLast Go.Proofs.YthecfligfhpccaaW.PrintMore
open Go.Proofs.Ythecfligfhpccaa.X

def byteInts (s : ByteArray) : List Int := s.data.toList.map (fun b => (b.toNat : Int))
theorem byteInts_length (s : ByteArray) : (byteInts s).length = s.size := by
  unfold byteInts
  rw [List.length_map, Array.length_toList]
  rfl
theorem strOf_byteInts (s : ByteArray) : strOfNums (byteInts s) = s := by
  unfold strOfNums byteInts
  rw [List.map_map]
  have : ((fun n : Int => UInt8.ofNat n.toNat) ∘ fun b : UInt8 => (b.toNat : Int)) = id := by
    funext b
    simp
  rw [this, List.map_id]
theorem bytes_C {W : World} {b : Nat} {s : ByteArray} {cap e : Nat} {fr : Nat × Nat} (h : W.heap[b]? = some (.cells (bytesRow s cap) e fr)) (hl : s.size ≤ 9223372036854775807) : (Kd.int .u8).C W (some ⟨b, 0, none⟩) s.size (byteInts s) := by
  refine ⟨byteInts_length s, hl, fun _ => ⟨_, rfl, fun j p hj => ?_⟩⟩
  have hjl := (List.getElem?_eq_some_iff.1 hj).1
  rw [byteInts_length] at hjl
  refine ⟨[.int .u8 p], rfl, rfl, fun i u hu => ?_⟩
  obtain rfl : i = 0 := by
    have := (List.getElem?_eq_some_iff.1 hu).1
    simp at this
    exact this
  obtain rfl : Value.int .u8 p = u := by simpa using hu
  have hz : (Kd.int .u8).sz = 1 := rfl
  rw [hz, Nat.mul_one, Nat.add_zero]
  have h3 : (Addr.add ⟨b, 0, none⟩ j) = ⟨b, j, none⟩ := by
    unfold Addr.add
    by_cases h0 : j = 0
    · rw [if_pos h0, h0]
    · rw [if_neg h0, Nat.zero_add]
  rw [h3]
  have h4 : (bytesRow s cap)[j]? = some (Value.int .u8 p) := by
    have hj2 : j < s.data.size := hjl
    unfold bytesRow
    rw [Array.getElem?_append_left (by simpa using hj2)]
    simp only [Array.getElem?_map]
    unfold byteInts at hj
    rw [List.getElem?_map, Array.getElem?_toList] at hj
    rw [Array.getElem?_eq_getElem hj2] at hj ⊢
    simp at hj ⊢
    exact hj
  simp [World.cell?, h, h4]
def impl_ContentsOf.f (k : Nat) (s : ByteArray) : Option (List (List ByteArray)) := if s.size ≤ 9223372036854775807 then dict_NewContents.f k (byteInts s) else none
theorem impl_ContentsOf.mono (k : Nat) (s : ByteArray) : LeO (impl_ContentsOf.f k s) (impl_ContentsOf.f (k + 1) s) := by
  unfold impl_ContentsOf.f
  split
  · exact dict_NewContents.mono _ _
  · exact LeO.none _
set_option maxHeartbeats 4000000 in
theorem impl_ContentsOf.calls (k : Nat) (s : ByteArray) (r : List (List ByteArray)) (w : World) (h : impl_ContentsOf.f k s = some r) :
    Calls Try.prog 9 #[.string s] w fun e w' => ∃ v0_ : Value, e = .returned (v0_) ∧ Kd.S (Kd.slice 9 Kd.string) 26 w' w.heap.size (fun _ => True) v0_ r ∧ Below w.heap.size w w' := by
  unfold impl_ContentsOf.f at h
  split at h
  case isFalse => cases h
  case isTrue hl =>
    have H := Aside0.mk h
    have hconv := fun w : World => run_bytes_of_string (P := Try.prog) w 9 46 5 s Try.underlying9 Try.underlying46 Try.underlying5
    clear h
    go_enter Try.func9, Try.ntmps9
    go_wp2_with fail
    have hc := dict_NewContents.calls k (some ⟨w.heap.size, 0, none⟩) (grownCap w s.size 0 5) (byteInts s) r (w.alloc (Obj.cells (bytesRow s (grownCap w s.size 0 5)) 5 ((bytesRow s (grownCap w s.size 0 5)).size, (bytesRow s (grownCap w s.size 0 5)).size + 1))).drew (by rw [byteInts_length]; exact bytes_C (heap_new w _) hl) (by rw [byteInts_length]; exact grownCap_ge w s.size 0 5) H.out
    rw [byteInts_length] at hc
    refine hc.mono ?_
    rintro e w2 ⟨v, rfl, hs, hb⟩
    have hb1 := below_drew (below_alloc (Below.refl w.heap.size w) (Obj.cells (bytesRow s (grownCap w s.size 0 5)) 5 ((bytesRow s (grownCap w s.size 0 5)).size, (bytesRow s (grownCap w s.size 0 5)).size + 1)))
    have HS := Aside0.mk (Kd.S_lower hs hb1.size)
    have HB := Aside0.mk (hb1.trans (hb.mono hb1.size))
    clear hs hb hb1 hc
    go_wp2
    go_ret
    exact ⟨_, rfl, HS.out, HB.out⟩
end Go.Proofs.Ythecfligfhpccaa.P
