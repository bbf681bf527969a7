/- Bytes in a window of a block of the call's own: read, written, decoded. -/
import Derived.Test.YtpjnebmcbeblkaaDoorESnP
import Derived.Test.YtpjnebmcbeblkaaDoorMGn
set_option linter.unusedVariables false
namespace Go.Proofs.YtpjnebmcbeblkaaDoor.Sn
open Go.RowKit Go.Lib Go.Proofs.YtpjnebmcbeblkaaDoorW.PrintWords Go.Proofs.YtpjnebmcbeblkaaDoor.Gn Go.Proofs.YtpjnebmcbeblkaaDoor.X
/-- The bytes d lie in block b (M bytes, none frozen), from off on. -/
def Win (w : World) (b M off : Nat) (d : ByteArray) : Prop := ∃ cs fz, w.heap[b]? = some (.cells cs 5 fz) ∧ cs.size = M ∧ off + d.size ≤ M ∧ (fz.2 ≤ fz.1 ∨ M ≤ fz.1) ∧ ∀ j, j < d.size → cs[off + j]? = some (.int .u8 (byt d j))
theorem Win.lt {w : World} {b M off : Nat} {d : ByteArray} (h : Win w b M off d) : b < w.heap.size := by
  obtain ⟨cs, fz, h, _⟩ := h
  exact (Array.getElem?_eq_some_iff.1 h).1
theorem Win.fits {w : World} {b M off : Nat} {d : ByteArray} (h : Win w b M off d) : off + d.size ≤ M := by
  obtain ⟨cs, fz, _, _, h, _⟩ := h
  exact h
theorem Win.block {w w1 : World} {b M off : Nat} {d : ByteArray} (h : Win w b M off d) (e : w1.heap[b]? = w.heap[b]?) : Win w1 b M off d := by
  obtain ⟨cs, fz, h1, h2⟩ := h
  exact ⟨cs, fz, e.trans h1, h2⟩
theorem Win.alloc {w : World} {b M off : Nat} {d : ByteArray} (h : Win w b M off d) (o : Obj) : Win (w.alloc o) b M off d := h.block (Below.heap_alloc w o b h.lt)
theorem Win.chg {S : List Nat} {w w1 : World} {b M off : Nat} {d : ByteArray} (h : Win w b M off d) (hc : Chg S w w1) (hb : b ∉ S) : Win w1 b M off d := h.block (hc.block b h.lt hb)
theorem Win.cell {w : World} {b M off : Nat} {d : ByteArray} (h : Win w b M off d) (j : Nat) (hj : j < d.size) : w.cell? ⟨b, off + j, none⟩ = some (.int .u8 (byt d j)) := by
  obtain ⟨cs, fz, h1, _, _, _, h2⟩ := h
  simp [World.cell?, h1, h2 j hj]
theorem Win.frozen {w : World} {b M off : Nat} {d : ByteArray} (h : Win w b M off d) (j : Nat) (hj : j < d.size) : w.frozen? ⟨b, off + j, none⟩ = false := by
  obtain ⟨cs, fz, h1, h2, h3, h4, _⟩ := h
  simp [World.frozen?, h1]
  omega
theorem Win.set {w : World} {b M off : Nat} {d : ByteArray} (h : Win w b M off d) (i : Nat) (hi : i < d.size) (v : UInt8) : Win (w.setCell ⟨b, off + i, none⟩ (.int .u8 (v.toNat : Int))) b M off (setB d i v) := by
  obtain ⟨cs, fz, h1, h2, h3, h4, h5⟩ := h
  refine ⟨cs.setIfInBounds (off + i) (.int .u8 (v.toNat : Int)), fz, ?_, by simpa using h2, by rw [setB_size]; exact h3, h4, fun j hj => ?_⟩
  · have := heap_put w ⟨b, off + i, none⟩ _ _ _ (.int .u8 (v.toNat : Int)) h1 rfl
    rw [this]
  · rw [setB_size] at hj
    rw [Array.getElem?_setIfInBounds, byt_setB d i j v hj]
    by_cases e : i = j
    · subst e; rw [if_pos rfl, if_pos (by omega), if_pos rfl]
    · rw [if_neg (by omega), if_neg e, h5 j hj]
/-- The sign at place p is read. -/
theorem dec_calls (w : World) (b M off c : Nat) (s : ByteArray) (p : Nat) (hp : p < s.size) (h : Win w b M off s) (hT : Tabs w) :
    Calls Tryd.prog 33 #[.slice (some ⟨b, off + p, none⟩) (s.size - p) c] w fun e w' => e = .returned (.tuple #[.int .i32 ((sg s p).1 : Int), .int .i64 ((sg s p).2 : Int)]) ∧ Chg [] w w' := by
  have hsz : (s.extract p s.size).size = s.size - p := by rw [ByteArray.size_extract]; omega
  have h1 := Any7.utf8_DecodeRune Tryd.lays732 (s.extract p s.size) b (off + p) c w hT.u8 (fun j hj => by
    rw [hsz] at hj
    have := h.cell (p + j) (by omega)
    rw [← Nat.add_assoc] at this
    rw [this, get_ext]
    rfl)
  rw [hsz] at h1
  exact h1.mono fun e w' ⟨h1, h2⟩ => ⟨h1, Chg.below h2⟩
theorem space_calls (r : Int) (w : World) (hlo : -2147483648 ≤ r) (hhi : r ≤ 2147483647) (hT : Tabs w) : Calls Tryd.prog 34 #[.int .i32 r] w fun e w' => e = .returned (.bool (Lib.isSpaceZ r)) ∧ Chg [] w w' :=
  (Tryd.unicode_IsSpace_any r w hlo hhi hT.white).mono fun e w' ⟨h1, h2⟩ => ⟨h1, Chg.below h2⟩
end Go.Proofs.YtpjnebmcbeblkaaDoor.Sn
