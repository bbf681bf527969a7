/- gse.toLower: the walk. -/
import Derived.Test.YthecfligfhpccaaDoorLaidB
import Derived.Test.YthecfligfhpccaaDoorESo
set_option linter.unusedVariables false
namespace Go.Proofs.YthecfligfhpccaaDoor.Pa
open Go.RowKit Go.Proofs.YthecfligfhpccaaDoorW.PrintWords Go.Proofs.YthecfligfhpccaaDoor.Gn Go.Proofs.YthecfligfhpccaaDoor.X
def lowI (c : Int) : Int := if 65 ≤ c ∧ c ≤ 90 then c + 32 else c
def lowB (c : UInt8) : UInt8 := if 65 ≤ c.toNat ∧ c.toNat ≤ 90 then c + 32 else c
theorem lowB_toNat (c : UInt8) : ((lowB c).toNat : Int) = lowI (c.toNat : Int) := by
  unfold lowB lowI
  by_cases h : 65 ≤ c.toNat ∧ c.toNat ≤ 90
  · rw [if_pos h, if_pos (by omega), UInt8.toNat_add]
    have : (32 : UInt8).toNat = 32 := rfl
    omega
  · rw [if_neg h, if_neg (by omega)]
def low (s : ByteArray) : ByteArray := ⟨s.data.map lowB⟩
theorem low_size (s : ByteArray) : (low s).size = s.size := by unfold low ByteArray.size; simp
/-- The byte at j. -/
def byt (s : ByteArray) (j : Nat) : Int := ((s.get! j).toNat : Int)
theorem byt_range (s : ByteArray) (j : Nat) : 0 ≤ byt s j ∧ byt s j ≤ 255 := by
  unfold byt
  have := UInt8.toNat_lt (s.get! j)
  omega
theorem byt_eq (s : ByteArray) (j : Nat) (h : j < s.size) : byt s j = ((s.data[j]'h).toNat : Int) := by
  unfold byt
  show ((s.data[j]!).toNat : Int) = _
  rw [getElem!_pos s.data j h]
theorem byt_low (s : ByteArray) (j : Nat) (h : j < s.size) : byt (low s) j = lowI (byt s j) := by
  rw [byt_eq (low s) j (by rw [low_size]; exact h), byt_eq s j h, ← lowB_toNat]
  unfold low
  simp
/-- The bytes of p lie in block b from o on. -/
def RdB (w : World) (b o : Nat) (p : ByteArray) : Prop := ∃ cs fr, w.heap[b]? = some (.cells cs 5 fr) ∧ ∀ j, j < p.size → cs[o + j]? = some (.int .u8 (byt p j))
theorem RdB.lt {w : World} {b o : Nat} {p : ByteArray} (h : RdB w b o p) : b < w.heap.size := by
  obtain ⟨cs, fr, h, _⟩ := h
  exact (Array.getElem?_eq_some_iff.1 h).1
theorem RdB.chg {T : List Nat} {w w' : World} {b o : Nat} {p : ByteArray} (h : RdB w b o p) (hc : Chg T w w') (hb : b ∉ T) : RdB w' b o p := by
  obtain ⟨cs, fr, h1, h2⟩ := h
  exact ⟨cs, fr, (hc.block b (Array.getElem?_eq_some_iff.1 h1).1 hb).trans h1, h2⟩
theorem RdB.cell {w : World} {b o : Nat} {p : ByteArray} (h : RdB w b o p) (j : Nat) (hj : j < p.size) : w.cell? ⟨b, o + j, none⟩ = some (.int .u8 (byt p j)) := by
  obtain ⟨cs, fr, h1, h2⟩ := h
  simp [World.cell?, h1, h2 j hj]
/-- A block of another kind is another block. -/
theorem RdB.ne {w : World} {b o g : Nat} {p : ByteArray} {cs : Array Value} {t : TypeId} {fr : Nat × Nat} (h : RdB w b o p) (hg : w.heap[g]? = some (.cells cs t fr)) (ht : t ≠ 5) : b ≠ g := by
  rintro rfl
  obtain ⟨cs', fr', h1, _⟩ := h
  rw [h1] at hg
  injection hg with hg
  injection hg with _ hg
  exact ht hg.symm
theorem RdB.cut {w : World} {b o : Nat} {p : ByteArray} (h : RdB w b o p) (i j : Nat) (hi : i ≤ j) (hj : j ≤ p.size) : RdB w b (o + i) (p.extract i j) := by
  obtain ⟨cs, fr, h1, h2⟩ := h
  have hs : (p.extract i j).size = j - i := by rw [ByteArray.size_extract]; omega
  refine ⟨cs, fr, h1, fun k hk => ?_⟩
  rw [hs] at hk
  rw [Nat.add_assoc, h2 (i + k) (by omega), byt_eq p (i + k) (by omega), byt_eq (p.extract i j) k (by omega)]
  congr 4
  show p.data[i + k]'_ = (p.extract i j).data[k]'_
  simp only [ByteArray.data_extract, Array.getElem_extract]
/-! ### toLower -/
def lrow (p : ByteArray) (i : Nat) : Array Value := Array.ofFn (n := p.size) fun q => .int .u8 (if q.val < i then lowI (byt p q.val) else 0)
theorem lrow_get (p : ByteArray) (i q : Nat) : (lrow p i)[q]? = if q < p.size then some (.int .u8 (if q < i then lowI (byt p q) else 0)) else none := by
  by_cases h : q < p.size
  · rw [if_pos h]; simp [lrow, h]
  · rw [if_neg h]; simp [lrow]; omega
theorem lrow_zero (p : ByteArray) : madeCells #[.int .u8 0] (p.size * 1) = lrow p 0 := by
  apply Array.ext_getElem?
  intro q
  rw [lrow_get]
  unfold madeCells
  by_cases h : q < p.size
  · rw [if_pos h, Array.getElem?_map, Array.getElem?_range, if_pos (by omega)]
    simp [Nat.mod_one]
  · rw [if_neg h, Array.getElem?_eq_none (by simp; omega)]
theorem lrow_set (p : ByteArray) (i : Nat) : (lrow p i).setIfInBounds i (.int .u8 (lowI (byt p i))) = lrow p (i + 1) := by
  apply Array.ext_getElem?
  intro q
  rw [Array.getElem?_setIfInBounds, lrow_get, lrow_get]
  by_cases e : i = q
  · subst e
    rw [if_pos rfl]
    have : (lrow p i).size = p.size := by simp [lrow]
    rw [this]
    by_cases h : i < p.size
    · rw [if_pos h, if_pos h, if_pos (by omega)]
    · rw [if_neg h, if_neg h]
  · rw [if_neg e]
    by_cases h : q < p.size
    · rw [if_pos h, if_pos h]
      by_cases h2 : q < i
      · rw [if_pos h2, if_pos (by omega)]
      · rw [if_neg h2, if_neg (by omega)]
    · rw [if_neg h, if_neg h]
theorem infoU8 : (Tryd.prog.info? 5).map (fun i => (i.zero, i.size, i.bytes)) = some (some (.int .u8 0), 1, 1) := by kernel_rfl
def LowPost (p : ByteArray) (w : World) (e : Ending) (w' : World) : Prop := ∃ b, e = .returned (.slice (some ⟨b, 0, none⟩) p.size p.size) ∧ RdB w' b 0 (low p) ∧ w.heap.size ≤ b ∧ Chg [] w w'
set_option maxHeartbeats 2000000 in
set_option maxRecDepth 100000 in
theorem toLower_calls (w : World) (b o c : Nat) (p : ByteArray) (h : RdB w b o p) (hp : p.size ≤ 1000000) :
    Calls Tryd.prog 35 #[.slice (some ⟨b, o, none⟩) p.size c] w (LowPost p w) := by
  have H := Aside0.mk h
  have HB3 : Aside0 (∀ w3, w3 = w.alloc (.cells (madeCells #[.int .u8 0] (p.size * 1)) 5) → w3.heap[w.heap.size]? = some (.cells (lrow p 0) 5 (0, 0))) := ⟨fun w3 e => by rw [e, heap_alloc_new, lrow_zero]⟩
  clear h
  go_enter Tryd.func35, Tryd.ntmps35
  go_wp2_with (at_make; refine wpList_make rfl _ _ _ rfl 5 (.int .u8 0) 1 1 Tryd.underlying43 infoU8 .i64 .i64 (p.size : Int) (p.size : Int) rfl rfl (by omega) (by omega) (by omega) (by omega) ?_; intro w3 e3; rw [Int.toNat_natCast] at e3 ⊢; have HR3 := Aside0.mk (HB3.out w3 e3); have HC3 : Aside0 (Chg [] w w3) := ⟨by rw [e3]; exact (Chg.refl [] w).alloc _⟩; clear e3 HB3)
  go_loopw [11] (fun v11 wr => ∃ i : Nat, v11 = .int .i64 i ∧ Aside0 (i ≤ p.size) ∧ Aside0 (wr.heap[w.heap.size]? = some (.cells (lrow p i) 5 (0, 0))) ∧ Aside0 (Chg [] w wr)) (fun v11 _ => p.size - (intOf v11).toNat)
  case atStart => exact ⟨0, rfl, ⟨Nat.zero_le _⟩, HR3, HC3⟩
  case round =>
    clear HR3
    obtain ⟨i, rfl, HI0, HR, HCR⟩ := hrel
    by_cases hlt : i < p.size
    · have c1 : wr.cell? ⟨w.heap.size, i, none⟩ = some (.int .u8 0) := by simp [World.cell?, HR.out, lrow_get, hlt]
      have f1 : wr.frozen? ⟨w.heap.size, i, none⟩ = false := by simp [World.frozen?, HR.out]
      have hne : b ≠ w.heap.size := by have := H.out.lt; omega
      have c2 := (H.out.chg HCR.out (by simp)).cell i hlt
      have hrg := byt_range p i
      obtain ⟨x, hx⟩ : ∃ x, x = byt p i := ⟨_, rfl⟩
      rw [← hx] at c2 hrg
      have HX := Aside0.mk hx
      have k1 : decide ((0:Int) ≤ (i:Int)) = true := decide_eq_true (by omega)
      have k2 : decide ((i:Int) < (p.size:Int)) = true := decide_eq_true (by omega)
      have HR4 : Aside0 ((wr.setCell ⟨w.heap.size, i, none⟩ (.int .u8 (lowI x))).heap[w.heap.size]? = some (.cells (lrow p (i + 1)) 5 (0, 0))) := ⟨by
        have := heap_put wr ⟨w.heap.size, i, none⟩ _ _ _ (.int .u8 (lowI x)) HR.out rfl
        rw [this, hx, ← lrow_set p i]⟩
      have HC4 : Aside0 (Chg [] w (wr.setCell ⟨w.heap.size, i, none⟩ (.int .u8 (lowI x)))) := ⟨HCR.out.setCell (.inr (Nat.le_refl _)) _⟩
      clear hx hne
      rcases (show x < 65 ∨ (65 ≤ x ∧ x ≤ 90) ∨ (65 ≤ x ∧ 90 < x) by omega) with h1 | ⟨h1, h2⟩ | ⟨h1, h2⟩
      · have q1 : decide (x ≥ 65) = false := decide_eq_false (by omega)
        have hl : lowI x = x := by unfold lowI; rw [if_neg (by omega)]
        rw [hl] at HR4 HC4
        clear hl
        go_wp2_with fail
        go_roundw
        case rel => exact ⟨i + 1, by go_num, ⟨by omega⟩, HR4, HC4⟩
        case measure => simp [intOf]; omega
      · have q1 : decide (x ≥ 65) = true := decide_eq_true (by omega)
        have q2 : decide (x ≤ 90) = true := decide_eq_true (by omega)
        have hl : lowI x = x - 65 + 97 := by unfold lowI; rw [if_pos (by omega)]; omega
        rw [hl] at HR4 HC4
        clear hl
        go_wp2_with fail
        go_roundw
        case rel => exact ⟨i + 1, by go_num, ⟨by omega⟩, HR4, HC4⟩
        case measure => simp [intOf]; omega
      · have q1 : decide (x ≥ 65) = true := decide_eq_true (by omega)
        have q2 : decide (x ≤ 90) = false := decide_eq_false (by omega)
        have hl : lowI x = x := by unfold lowI; rw [if_neg (by omega)]
        rw [hl] at HR4 HC4
        clear hl
        go_wp2_with fail
        go_roundw
        case rel => exact ⟨i + 1, by go_num, ⟨by omega⟩, HR4, HC4⟩
        case measure => simp [intOf]; omega
    · have hi : i = p.size := by have := HI0.out; omega
      have hrow := HR.out
      rw [hi] at hrow
      have HRW := Aside0.mk hrow
      have k1 : decide (i < p.size) = false := decide_eq_false hlt
      have k2 : decide ((i:Int) < (p.size:Int)) = false := decide_eq_false (by omega)
      clear hi hrow
      go_wp2_with fail
      go_ret
      refine ⟨_, rfl, ⟨_, _, HRW.out, fun j hj => ?_⟩, Nat.le_refl _, HCR.out⟩
      rw [low_size] at hj
      rw [Nat.zero_add, lrow_get, if_pos hj, if_pos hj, byt_low p j hj]
theorem toLow_calls (w : World) (b o c : Nat) (p : ByteArray) (h : RdB w b o p) (hp : p.size ≤ 1000000) :
    Calls Tryd.prog 28 #[.slice (some ⟨b, o, none⟩) p.size c] w (LowPost p w) := by
  have HH := Aside0.mk (toLower_calls w b o c p h hp)
  clear h
  go_enter Tryd.func28, Tryd.ntmps28
  go_wp2_with (go_at_call 35; refine HH.out.mono ?_; rintro e w1 ⟨b', rfl, h1, h2, h3⟩; have H1 := Aside0.mk h1; have H2 := Aside0.mk h2; have H3 := Aside0.mk h3; clear h1 h2 h3)
  go_ret
  exact ⟨_, rfl, H1.out, H2.out, H3.out⟩
end Go.Proofs.YthecfligfhpccaaDoor.Pa
