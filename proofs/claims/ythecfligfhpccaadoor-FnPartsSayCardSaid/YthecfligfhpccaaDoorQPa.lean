/- gse.toLower: the walk. The parts of a text, plain. gse's SplitTextToWords: the walk. impl.Parts: the walk. laws.lowered: the walk. spec.Parts: the walk. The parts of a text, plain: a part, split by itself, is one part. The parts of a text as the reference has them, plain; they are the package's. spec.Parts: the walk. -/
import Derived.Test.YthecfligfhpccaaDoorLaidB
import Derived.Test.YthecfligfhpccaaDoorQPl
import Derived.Deep.DeepCutAuto
import Derived.KernelRfl
set_option linter.unusedVariables false
namespace Go.Proofs.YthecfligfhpccaaDoor.Pa
open Go.RowKit Go.Proofs.YthecfligfhpccaaDoorW.PrintWords Go.Proofs.YthecfligfhpccaaDoor.Gn Go.Proofs.YthecfligfhpccaaDoor.X
def lowI (c : Int) : Int := if 65 ≤ c ∧ c ≤ 90 then c + 32 else c
def lowB (c : UInt8) : UInt8 := if 65 ≤ c.toNat ∧ c.toNat ≤ 90 then c + 32 else c
theorem lowB_toNat (c : UInt8) : ((lowB c).toNat : Int) = lowI (c.toNat : Int) := by
  unfold lowB lowI
  by_cases h : 65 ≤ c.toNat ∧ c.toNat ≤ 90
  · rw [if_pos h, if_pos (by omega), UInt8.toNat_add]
    have : (32 : UInt8).toNat = 32 := rfl
    omega
  · rw [if_neg h, if_neg (by omega)]
def low (s : ByteArray) : ByteArray := ⟨s.data.map lowB⟩
theorem low_size (s : ByteArray) : (low s).size = s.size := by unfold low ByteArray.size; simp
/-- The byte at j. -/
def byt (s : ByteArray) (j : Nat) : Int := ((s.get! j).toNat : Int)
theorem byt_range (s : ByteArray) (j : Nat) : 0 ≤ byt s j ∧ byt s j ≤ 255 := by
  unfold byt
  have := UInt8.toNat_lt (s.get! j)
  omega
theorem byt_eq (s : ByteArray) (j : Nat) (h : j < s.size) : byt s j = ((s.data[j]'h).toNat : Int) := by
  unfold byt
  show ((s.data[j]!).toNat : Int) = _
  rw [getElem!_pos s.data j h]
theorem byt_low (s : ByteArray) (j : Nat) (h : j < s.size) : byt (low s) j = lowI (byt s j) := by
  rw [byt_eq (low s) j (by rw [low_size]; exact h), byt_eq s j h, ← lowB_toNat]
  unfold low
  simp
/-- The bytes of p lie in block b from o on. -/
def RdB (w : World) (b o : Nat) (p : ByteArray) : Prop := ∃ cs fr, w.heap[b]? = some (.cells cs 5 fr) ∧ ∀ j, j < p.size → cs[o + j]? = some (.int .u8 (byt p j))
theorem RdB.lt {w : World} {b o : Nat} {p : ByteArray} (h : RdB w b o p) : b < w.heap.size := by
  obtain ⟨cs, fr, h, _⟩ := h
  exact (Array.getElem?_eq_some_iff.1 h).1
theorem RdB.chg {T : List Nat} {w w' : World} {b o : Nat} {p : ByteArray} (h : RdB w b o p) (hc : Chg T w w') (hb : b ∉ T) : RdB w' b o p := by
  obtain ⟨cs, fr, h1, h2⟩ := h
  exact ⟨cs, fr, (hc.block b (Array.getElem?_eq_some_iff.1 h1).1 hb).trans h1, h2⟩
theorem RdB.cell {w : World} {b o : Nat} {p : ByteArray} (h : RdB w b o p) (j : Nat) (hj : j < p.size) : w.cell? ⟨b, o + j, none⟩ = some (.int .u8 (byt p j)) := by
  obtain ⟨cs, fr, h1, h2⟩ := h
  simp [World.cell?, h1, h2 j hj]
/-- A block of another kind is another block. -/
theorem RdB.ne {w : World} {b o g : Nat} {p : ByteArray} {cs : Array Value} {t : TypeId} {fr : Nat × Nat} (h : RdB w b o p) (hg : w.heap[g]? = some (.cells cs t fr)) (ht : t ≠ 5) : b ≠ g := by
  rintro rfl
  obtain ⟨cs', fr', h1, _⟩ := h
  rw [h1] at hg
  injection hg with hg
  injection hg with _ hg
  exact ht hg.symm
theorem RdB.cut {w : World} {b o : Nat} {p : ByteArray} (h : RdB w b o p) (i j : Nat) (hi : i ≤ j) (hj : j ≤ p.size) : RdB w b (o + i) (p.extract i j) := by
  obtain ⟨cs, fr, h1, h2⟩ := h
  have hs : (p.extract i j).size = j - i := by rw [ByteArray.size_extract]; omega
  refine ⟨cs, fr, h1, fun k hk => ?_⟩
  rw [hs] at hk
  rw [Nat.add_assoc, h2 (i + k) (by omega), byt_eq p (i + k) (by omega), byt_eq (p.extract i j) k (by omega)]
  congr 4
  show p.data[i + k]'_ = (p.extract i j).data[k]'_
  simp only [ByteArray.data_extract, Array.getElem_extract]
/-! ### toLower -/
def lrow (p : ByteArray) (i : Nat) : Array Value := Array.ofFn (n := p.size) fun q => .int .u8 (if q.val < i then lowI (byt p q.val) else 0)
theorem lrow_get (p : ByteArray) (i q : Nat) : (lrow p i)[q]? = if q < p.size then some (.int .u8 (if q < i then lowI (byt p q) else 0)) else none := by
  by_cases h : q < p.size
  · rw [if_pos h]; simp [lrow, h]
  · rw [if_neg h]; simp [lrow]; omega
theorem lrow_zero (p : ByteArray) : madeCells #[.int .u8 0] (p.size * 1) = lrow p 0 := by
  apply Array.ext_getElem?
  intro q
  rw [lrow_get]
  unfold madeCells
  by_cases h : q < p.size
  · rw [if_pos h, Array.getElem?_map, Array.getElem?_range, if_pos (by omega)]
    simp [Nat.mod_one]
  · rw [if_neg h, Array.getElem?_eq_none (by simp; omega)]
theorem lrow_set (p : ByteArray) (i : Nat) : (lrow p i).setIfInBounds i (.int .u8 (lowI (byt p i))) = lrow p (i + 1) := by
  apply Array.ext_getElem?
  intro q
  rw [Array.getElem?_setIfInBounds, lrow_get, lrow_get]
  by_cases e : i = q
  · subst e
    rw [if_pos rfl]
    have : (lrow p i).size = p.size := by simp [lrow]
    rw [this]
    by_cases h : i < p.size
    · rw [if_pos h, if_pos h, if_pos (by omega)]
    · rw [if_neg h, if_neg h]
  · rw [if_neg e]
    by_cases h : q < p.size
    · rw [if_pos h, if_pos h]
      by_cases h2 : q < i
      · rw [if_pos h2, if_pos (by omega)]
      · rw [if_neg h2, if_neg (by omega)]
    · rw [if_neg h, if_neg h]
theorem infoU8 : (Tryd.prog.info? 5).map (fun i => (i.zero, i.size, i.bytes)) = some (some (.int .u8 0), 1, 1) := by kernel_rfl
def LowPost (p : ByteArray) (w : World) (e : Ending) (w' : World) : Prop := ∃ b, e = .returned (.slice (some ⟨b, 0, none⟩) p.size p.size) ∧ RdB w' b 0 (low p) ∧ w.heap.size ≤ b ∧ Chg [] w w'
set_option maxHeartbeats 2000000 in
set_option maxRecDepth 100000 in
theorem toLower_calls (w : World) (b o c : Nat) (p : ByteArray) (h : RdB w b o p) (hp : p.size ≤ 1000000) :
    Calls Tryd.prog 35 #[.slice (some ⟨b, o, none⟩) p.size c] w (LowPost p w) := by
  have H := Aside0.mk h
  have HB3 : Aside0 (∀ w3, w3 = w.alloc (.cells (madeCells #[.int .u8 0] (p.size * 1)) 5) → w3.heap[w.heap.size]? = some (.cells (lrow p 0) 5 (0, 0))) := ⟨fun w3 e => by rw [e, heap_alloc_new, lrow_zero]⟩
  clear h
  go_enter Tryd.func35, Tryd.ntmps35
  go_wp2_with (at_make; refine wpList_make rfl _ _ _ rfl 5 (.int .u8 0) 1 1 Tryd.underlying43 infoU8 .i64 .i64 (p.size : Int) (p.size : Int) rfl rfl (by omega) (by omega) (by omega) (by omega) ?_; intro w3 e3; rw [Int.toNat_natCast] at e3 ⊢; have HR3 := Aside0.mk (HB3.out w3 e3); have HC3 : Aside0 (Chg [] w w3) := ⟨by rw [e3]; exact (Chg.refl [] w).alloc _⟩; clear e3 HB3)
  go_loopw [11] (fun v11 wr => ∃ i : Nat, v11 = .int .i64 i ∧ Aside0 (i ≤ p.size) ∧ Aside0 (wr.heap[w.heap.size]? = some (.cells (lrow p i) 5 (0, 0))) ∧ Aside0 (Chg [] w wr)) (fun v11 _ => p.size - (intOf v11).toNat)
  case atStart => exact ⟨0, rfl, ⟨Nat.zero_le _⟩, HR3, HC3⟩
  case round =>
    clear HR3
    obtain ⟨i, rfl, HI0, HR, HCR⟩ := hrel
    by_cases hlt : i < p.size
    · have c1 : wr.cell? ⟨w.heap.size, i, none⟩ = some (.int .u8 0) := by simp [World.cell?, HR.out, lrow_get, hlt]
      have f1 : wr.frozen? ⟨w.heap.size, i, none⟩ = false := by simp [World.frozen?, HR.out]
      have hne : b ≠ w.heap.size := by have := H.out.lt; omega
      have c2 := (H.out.chg HCR.out (by simp)).cell i hlt
      have hrg := byt_range p i
      obtain ⟨x, hx⟩ : ∃ x, x = byt p i := ⟨_, rfl⟩
      rw [← hx] at c2 hrg
      have HX := Aside0.mk hx
      have k1 : decide ((0:Int) ≤ (i:Int)) = true := decide_eq_true (by omega)
      have k2 : decide ((i:Int) < (p.size:Int)) = true := decide_eq_true (by omega)
      have HR4 : Aside0 ((wr.setCell ⟨w.heap.size, i, none⟩ (.int .u8 (lowI x))).heap[w.heap.size]? = some (.cells (lrow p (i + 1)) 5 (0, 0))) := ⟨by
        have := heap_put wr ⟨w.heap.size, i, none⟩ _ _ _ (.int .u8 (lowI x)) HR.out rfl
        rw [this, hx, ← lrow_set p i]⟩
      have HC4 : Aside0 (Chg [] w (wr.setCell ⟨w.heap.size, i, none⟩ (.int .u8 (lowI x)))) := ⟨HCR.out.setCell (.inr (Nat.le_refl _)) _⟩
      clear hx hne
      rcases (show x < 65 ∨ (65 ≤ x ∧ x ≤ 90) ∨ (65 ≤ x ∧ 90 < x) by omega) with h1 | ⟨h1, h2⟩ | ⟨h1, h2⟩
      · have q1 : decide (x ≥ 65) = false := decide_eq_false (by omega)
        have hl : lowI x = x := by unfold lowI; rw [if_neg (by omega)]
        rw [hl] at HR4 HC4
        clear hl
        go_wp2_with fail
        go_roundw
        case rel => exact ⟨i + 1, by go_num, ⟨by omega⟩, HR4, HC4⟩
        case measure => simp [intOf]; omega
      · have q1 : decide (x ≥ 65) = true := decide_eq_true (by omega)
        have q2 : decide (x ≤ 90) = true := decide_eq_true (by omega)
        have hl : lowI x = x - 65 + 97 := by unfold lowI; rw [if_pos (by omega)]; omega
        rw [hl] at HR4 HC4
        clear hl
        go_wp2_with fail
        go_roundw
        case rel => exact ⟨i + 1, by go_num, ⟨by omega⟩, HR4, HC4⟩
        case measure => simp [intOf]; omega
      · have q1 : decide (x ≥ 65) = true := decide_eq_true (by omega)
        have q2 : decide (x ≤ 90) = false := decide_eq_false (by omega)
        have hl : lowI x = x := by unfold lowI; rw [if_neg (by omega)]
        rw [hl] at HR4 HC4
        clear hl
        go_wp2_with fail
        go_roundw
        case rel => exact ⟨i + 1, by go_num, ⟨by omega⟩, HR4, HC4⟩
        case measure => simp [intOf]; omega
    · have hi : i = p.size := by have := HI0.out; omega
      have hrow := HR.out
      rw [hi] at hrow
      have HRW := Aside0.mk hrow
      have k1 : decide (i < p.size) = false := decide_eq_false hlt
      have k2 : decide ((i:Int) < (p.size:Int)) = false := decide_eq_false (by omega)
      clear hi hrow
      go_wp2_with fail
      go_ret
      refine ⟨_, rfl, ⟨_, _, HRW.out, fun j hj => ?_⟩, Nat.le_refl _, HCR.out⟩
      rw [low_size] at hj
      rw [Nat.zero_add, lrow_get, if_pos hj, if_pos hj, byt_low p j hj]
theorem toLow_calls (w : World) (b o c : Nat) (p : ByteArray) (h : RdB w b o p) (hp : p.size ≤ 1000000) :
    Calls Tryd.prog 28 #[.slice (some ⟨b, o, none⟩) p.size c] w (LowPost p w) := by
  have HH := Aside0.mk (toLower_calls w b o c p h hp)
  clear h
  go_enter Tryd.func28, Tryd.ntmps28
  go_wp2_with (go_at_call 35; refine HH.out.mono ?_; rintro e w1 ⟨b', rfl, h1, h2, h3⟩; have H1 := Aside0.mk h1; have H2 := Aside0.mk h2; have H3 := Aside0.mk h3; clear h1 h2 h3)
  go_ret
  exact ⟨_, rfl, H1.out, H2.out, H3.out⟩
end Go.Proofs.YthecfligfhpccaaDoor.Pa
namespace Go.Proofs.YthecfligfhpccaaDoor.Pa
open Go.RowKit Go.Lib
/-- The sign at a place, and its size. -/
def sg (s : ByteArray) (p : Nat) : Nat × Nat := Lib.decodeGo (s.extract p s.size)
theorem get_ext (s : ByteArray) (p j : Nat) : (s.extract p s.size).get! j = s.get! (p + j) := by
  show (s.extract p s.size).data[j]! = s.data[p + j]!
  rw [ByteArray.data_extract]
  have hs : s.size = s.data.size := rfl
  by_cases h : p + j < s.data.size
  · have h3 : j < (s.data.extract p s.size).size := by rw [Array.size_extract]; omega
    rw [getElem!_pos _ j h3, getElem!_pos _ (p + j) h, Array.getElem_extract]
  · have h3 : ¬ j < (s.data.extract p s.size).size := by rw [Array.size_extract]; omega
    rw [getElem!_neg _ j h3, getElem!_neg _ (p + j) h]
theorem sg_dec (s : ByteArray) (p : Nat) (h : p < s.size) : sg s p = Utf8.decode s p := by
  have hz : (s.extract p s.size).size = s.size - p := by rw [ByteArray.size_extract]; omega
  unfold sg decodeGo
  rw [if_neg (by omega), decode_at, decode_at, hz, get_ext, get_ext, get_ext, get_ext]
  simp
theorem sg_pos (s : ByteArray) (p : Nat) (h : p < s.size) : 1 ≤ (sg s p).2 := by
  rw [sg_dec s p h, decode_at]
  unfold decodeN
  repeat' split
  all_goals simp
theorem sg_le (s : ByteArray) (p : Nat) (h : p < s.size) : p + (sg s p).2 ≤ s.size := by
  rw [sg_dec s p h, decode_at]
  unfold decodeN
  repeat' split
  all_goals (simp only; omega)
theorem sg_rune (s : ByteArray) (p : Nat) (h : p < s.size) : (sg s p).1 ≤ 1114111 := by
  rw [sg_dec s p h, decode_at]
  have := UInt8.toNat_lt (s.get! p)
  unfold decodeN
  repeat' split
  all_goals (simp only; omega)
structure Opt where
  each : Bool
  alpha : Bool
  num : Bool
/-- Whether a sign is put together with others. -/
def stk (o : Opt) (x : Nat × Nat) : Bool := decide (x.2 ≤ 2) && ((isLetterU x.1 && !o.alpha) || (isNumberU x.1 && !o.num))
/-- The parts from cur on; a run began at st if run is on. -/
def go (s : ByteArray) (o : Opt) : Nat → Nat → Nat → Bool → List ByteArray
  | 0, _, _, _ => []
  | k + 1, cur, st, run =>
    if cur < s.size then
      (if stk o (sg s cur) then
        (if o.each then low (s.extract cur (cur + (sg s cur).2)) :: go s o k (cur + (sg s cur).2) (if run then st else cur) true
         else go s o k (cur + (sg s cur).2) (if run then st else cur) true)
       else (if run && (decide (cur ≠ 0) && !o.each) then low (s.extract st cur) :: s.extract cur (cur + (sg s cur).2) :: go s o k (cur + (sg s cur).2) st false
         else s.extract cur (cur + (sg s cur).2) :: go s o k (cur + (sg s cur).2) st false))
    else (if run && !o.each then (if cur ≠ 0 then [low (s.extract st cur)] else []) else [])
def parts (s : ByteArray) (o : Opt) : List ByteArray := go s o (s.size + 1) 0 0 true
theorem ext_le (s : ByteArray) (i j : Nat) : (s.extract i j).size ≤ s.size := by rw [ByteArray.size_extract]; omega
theorem go_small (s : ByteArray) (o : Opt) : ∀ (k cur st : Nat) (run : Bool), (go s o k cur st run).length ≤ 2 * k ∧ ∀ p ∈ go s o k cur st run, p.size ≤ s.size := by
  intro k
  induction k with
  | zero => intro cur st run; exact ⟨Nat.le_refl _, fun p hp => by simp [go] at hp⟩
  | succ k ih =>
    intro cur st run
    have i1 := fun a b c => (ih a b c).1
    have i2 := fun a b c => (ih a b c).2
    unfold go
    constructor
    · repeat' split
      all_goals try simp only [List.length_cons, List.length_nil]
      all_goals first | omega | (have := i1 (cur + (sg s cur).2) (if run = true then st else cur) true; omega) | (have := i1 (cur + (sg s cur).2) st false; omega) | (have := i1 (cur + (sg s cur).2) st true; omega) | (have := i1 (cur + (sg s cur).2) cur true; omega)
    · intro p hp
      repeat' split at hp
      all_goals try simp only [List.mem_cons, List.not_mem_nil, or_false] at hp
      all_goals first | (rcases hp with rfl | rfl | hp; (rw [low_size]; exact ext_le _ _ _); exact ext_le _ _ _; exact i2 _ _ _ p hp) | (rcases hp with rfl | hp; (rw [low_size]; exact ext_le _ _ _); exact i2 _ _ _ p hp) | (rcases hp with rfl | hp; exact ext_le _ _ _; exact i2 _ _ _ p hp) | exact i2 _ _ _ p hp | (subst hp; rw [low_size]; exact ext_le _ _ _)
end Go.Proofs.YthecfligfhpccaaDoor.Pa
namespace Go.Proofs.YthecfligfhpccaaDoor.Pa
open Go.RowKit Go.Lib Go.Proofs.YthecfligfhpccaaDoorW.PrintWords Go.Proofs.YthecfligfhpccaaDoor.Gn Go.Proofs.YthecfligfhpccaaDoor.X
theorem infoT : (Tryd.prog.info? 44).map (fun i => (i.zero, i.size, i.bytes)) = some (some (.slice none 0 0), 1, 24) := by kernel_rfl
/-- The value x is a slice of the bytes p. -/
def PRd (w : World) (x : Value) (p : ByteArray) : Prop := ∃ b o c, x = .slice (some ⟨b, o, none⟩) p.size c ∧ RdB w b o p
theorem PRd.chg {T : List Nat} {w w' : World} {x : Value} {p : ByteArray} (h : PRd w x p) (hc : Chg T w w') (hT : ∀ g ∈ T, ∃ cs t fr, w.heap[g]? = some (.cells cs t fr) ∧ t ≠ 5) : PRd w' x p := by
  obtain ⟨b, o, c, h1, h2⟩ := h
  exact ⟨b, o, c, h1, h2.chg hc (fun hb => by obtain ⟨cs, t, fr, h3, h4⟩ := hT b hb; exact h2.ne h3 h4 rfl)⟩
/-- v is a row of slices of these bytes. -/
def TRow (w : World) (v : Value) (ps : List ByteArray) : Prop := ∃ xs : List Value, ORow w 44 v xs ∧ xs.length = ps.length ∧ ∀ i, ∀ h : i < ps.length, ∃ x, xs[i]? = some x ∧ PRd w x ps[i]
theorem TRow.chg {w w' : World} {v : Value} {ps : List ByteArray} (h : TRow w v ps) (hc : Chg [] w w') : TRow w' v ps := by
  obtain ⟨xs, h1, h2, h3⟩ := h
  exact ⟨xs, h1.chg hc (by simp), h2, fun i hi => by obtain ⟨x, e, hx⟩ := h3 i hi; exact ⟨x, e, hx.chg hc (by simp)⟩⟩
theorem TRow.slice {w : World} {v : Value} {ps : List ByteArray} (h : TRow w v ps) : ∃ A c, v = .slice A ps.length c := by
  obtain ⟨xs, h1, h2, _⟩ := h
  obtain ⟨A, c, e, _⟩ := h1.slice
  exact ⟨A, c, by rw [e, h2]⟩
theorem TRow.add {w w' w2 : World} {v v' : Value} {xs : List Value} {ps : List ByteArray} {y : Value} {p : ByteArray} (h : ORow w 44 v xs) (hl : xs.length = ps.length) (hp : ∀ i, ∀ h : i < ps.length, ∃ x, xs[i]? = some x ∧ PRd w x ps[i])
    (hy : PRd w y p) (hr : ORow w' 44 v' (xs ++ [y])) (hc0 : Chg [] w w2) (hc : Chg v.ownBlock.toList w2 w') : TRow w' v' (ps ++ [p]) := by
  have hT : ∀ g ∈ v.ownBlock.toList, ∃ cs t fr, w2.heap[g]? = some (.cells cs t fr) ∧ t ≠ 5 := fun g hg => by
    obtain ⟨_, cur, hcur⟩ := (h.chg hc0 (by simp)).block (g := g) (by simpa using hg)
    exact ⟨cur, _, _, hcur, by decide⟩
  refine ⟨xs ++ [y], hr, by simp [hl], fun i hi => ?_⟩
  by_cases hlt : i < ps.length
  · obtain ⟨x, e, hx⟩ := hp i hlt
    refine ⟨x, by rw [List.getElem?_append_left (by omega)]; exact e, ?_⟩
    rw [List.getElem_append_left hlt]
    exact (hx.chg hc0 (by simp)).chg hc hT
  · have hi2 : i = ps.length := by simp at hi; omega
    subst hi2
    refine ⟨y, by rw [List.getElem?_append_right (by omega), hl]; simp, ?_⟩
    rw [List.getElem_append_right (Nat.le_refl _)]
    simp only [Nat.sub_self, List.getElem_cons_zero]
    exact (hy.chg hc0 (by simp)).chg hc hT
/-- 'append(out, y)' where out is a row of slices. -/
theorem wpList_addT {W : World} {ops : Array Oper} {rest : List Oper} {o : Oper} {a : Act} {Q : Exit → Act → World → Prop} (hgd : o.guard = none) (s x : Operand)
    (ho : o.op = .call { callee := .builtin .append, args := #[s, x], argTypes := #[41, 41] }) (A : Option Addr) (c : Nat) (os : List ByteArray) (m : Nat) (hm : os.length = m) (hs : a.eval s = .slice A m c) (hv : TRow W (.slice A m c) os)
    (y : Value) (p : ByteArray) (hx : a.eval x = .slice (some ⟨W.heap.size, 0, none⟩) 1 1) (hy : PRd W y p) (hl : m ≤ 1000000)
    (h : ∀ A' c' w', TRow w' (.slice A' (m + 1) c') (os ++ [p]) → Chg (Value.slice A m c).ownBlock.toList W w' → (∀ g, (Value.slice A' (m + 1) c').ownBlock = some g → (Value.slice A m c).ownBlock = some g ∨ W.heap.size ≤ g) → wpList Tryd.prog ops Q rest (a.put o.dst (.slice A' (m + 1) c')) w') :
    wpList Tryd.prog ops Q (o :: rest) a (W.alloc (.cells #[y] 44)) := by
  obtain ⟨xs, h1, h2, h3⟩ := hv
  have hy1 : y.oneCell' = true := by obtain ⟨b, off, cc, e, _⟩ := hy; rw [e]; rfl
  refine wpList_append1 hgd s x 41 ho 44 (.slice none 0 0) 24 Tryd.underlying41 infoT rfl (.slice A m c) xs hs (h1.chg ((Chg.refl [] W).alloc _) (by simp)) W.heap.size y hx (by simp) hy1 (by omega) (by unfold maxLen; omega) ?_
  intro v' w' hr hc hown
  have hT := TRow.add h1 h2 h3 hy hr ((Chg.refl [] W).alloc _) hc
  obtain ⟨A', c', e⟩ := hT.slice
  have e2 : v' = .slice A' (m + 1) c' := by rw [e]; simp [hm]
  subst e2
  refine h A' c' w' hT ⟨hc.os, hc.tape, hc.output, by have := hc.size; rw [size_alloc] at this; omega, fun k hk hs => (hc.block k (by rw [size_alloc]; omega) hs).trans (Below.heap_alloc W _ k hk)⟩ (fun g hg => ?_)
  rcases hown with q | q
  · exact .inl (by rw [← q]; exact hg)
  · rw [hg] at q
    have : g = _ := (by injection q)
    rw [this, size_alloc]
    exact .inr (by omega)
def SpPost (s : ByteArray) (o : Opt) (w : World) (e : Ending) (w' : World) : Prop := ∃ v, e = .returned v ∧ TRow w' v (parts s o) ∧ Chg [] w w'
theorem num_calls (r : Int) (w : World) (hlo : -2147483648 ≤ r) (hhi : r ≤ 2147483647) (hT : Tabs w) : Calls Tryd.prog 26 #[.int .i32 r] w fun e w' => e = .returned (.bool (isNumberU r)) ∧ Chg [] w w' :=
  (Tryd.unicode_IsNumber_any numberT r w hlo hhi hT.props hT.number numberT_ok).mono fun e w' ⟨h1, h2⟩ => ⟨h1, Chg.below h2⟩
theorem let_calls (r : Int) (w : World) (hlo : -2147483648 ≤ r) (hhi : r ≤ 2147483647) (hT : Tabs w) : Calls Tryd.prog 27 #[.int .i32 r] w fun e w' => e = .returned (.bool (isLetterU r)) ∧ Chg [] w w' :=
  (Tryd.unicode_IsLetter_all r w hlo hhi hT.props hT.letter).mono fun e w' ⟨h1, h2⟩ => ⟨h1, Chg.below h2⟩
theorem dec_calls (w : World) (b c : Nat) (s : ByteArray) (p : Nat) (hp : p < s.size) (h : RdB w b 0 s) (hT : Tabs w) :
    Calls Tryd.prog 25 #[.slice (some ⟨b, p, none⟩) (s.size - p) c] w fun e w' => e = .returned (.tuple #[.int .i32 ((sg s p).1 : Int), .int .i64 ((sg s p).2 : Int)]) ∧ Chg [] w w' := by
  have hsz : (s.extract p s.size).size = s.size - p := by rw [ByteArray.size_extract]; omega
  have h1 := Any7.utf8_DecodeRune Tryd.lays732 (s.extract p s.size) b p c w hT.u8 (fun j hj => by
    rw [hsz] at hj
    have := h.cell (p + j) (by omega)
    rw [Nat.zero_add] at this
    rw [this, get_ext]
    rfl)
  rw [hsz] at h1
  exact h1.mono fun e w' ⟨h1, h2⟩ => ⟨h1, Chg.below h2⟩
theorem low_at (w W : World) (bt : Nat) (s : ByteArray) (hs : RdB w bt 0 s) (hl : s.size ≤ 1000) (hc : Chg [] w W) (i n c : Nat) (h2 : i + n ≤ s.size) :
    Calls Tryd.prog 28 #[.slice (some ⟨bt, i, none⟩) n c] W fun e w' => ∃ b, e = .returned (.slice (some ⟨b, 0, none⟩) n n) ∧ PRd w' (.slice (some ⟨b, 0, none⟩) n n) (low (s.extract i (i + n))) ∧ Chg [] W w' := by
  have hz : (s.extract i (i + n)).size = n := by rw [ByteArray.size_extract]; omega
  have h := toLow_calls W bt i c (s.extract i (i + n)) (by have := (hs.chg hc (by simp)).cut i (i + n) (by omega) h2; rwa [Nat.zero_add] at this) (by omega)
  rw [hz] at h
  refine h.mono ?_
  rintro e w' ⟨b, rfl, h1, h2, h3⟩
  rw [hz]
  exact ⟨b, rfl, ⟨b, 0, n, by rw [low_size, hz], h1⟩, h3⟩
theorem cut_at (w W : World) (bt : Nat) (s : ByteArray) (hs : RdB w bt 0 s) (hc : Chg [] w W) (i n c : Nat) (h2 : i + n ≤ s.size) : PRd W (.slice (some ⟨bt, i, none⟩) n c) (s.extract i (i + n)) := by
  have hz : (s.extract i (i + n)).size = n := by rw [ByteArray.size_extract]; omega
  exact ⟨bt, i, c, by rw [hz], by have := (hs.chg hc (by simp)).cut i (i + n) (by omega) h2; rwa [Nat.zero_add] at this⟩
set_option maxHeartbeats 4000000 in
set_option maxRecDepth 100000 in
theorem split_calls (w : World) (bs bt cap : Nat) (s : ByteArray) (o : Opt) (hseg : w.heap[bs]? = some (.cells #[.bool o.each, .bool o.alpha, .bool o.num] 40 (0, 0))) (hs : RdB w bt 0 s) (hcap : s.size ≤ cap) (hl : s.size ≤ 1000) (hT : Tabs w) :
    Calls Tryd.prog 18 #[.pointer (some ⟨bs, 0, none⟩), .slice (some ⟨bt, 0, none⟩) s.size cap] w (SpPost s o w) := by
  have HSEG := Aside0.mk hseg
  have HS := Aside0.mk hs
  have HT := Aside0.mk hT
  have HLT : Aside0 (bs < w.heap.size) := ⟨(Array.getElem?_eq_some_iff.1 hseg).1⟩
  have HM3 : Aside0 (∀ w3, w3 = w.alloc (.cells (madeCells #[.slice none 0 0] (s.size / 3 * 1)) 44) → TRow w3 (.slice (some ⟨w.heap.size, 0, none⟩) 0 (s.size / 3)) []) := ⟨fun w3 e => ⟨[], by rw [e]; exact ORow.of (xs := []) (heap_alloc_new _ _) (Nat.zero_le _) (by unfold maxLen; omega) (by simp [madeCells]) (by simp), rfl, fun i hi => by simp at hi⟩⟩
  clear hseg hs hT
  go_enter Tryd.func18, Tryd.ntmps18
  go_wp2_with (at_make; refine wpList_make rfl _ _ _ rfl 44 (.slice none 0 0) 1 24 Tryd.underlying41 infoT .i64 .i64 0 ((s.size : Int) / 3) rfl rfl (by omega) (by omega) (by omega) (by omega) ?_; intro w3 e3; rw [show ((s.size : Int) / 3).toNat = s.size / 3 by omega] at e3 ⊢; have HR3 := Aside0.mk (HM3.out w3 e3); have HC3 : Aside0 (Chg [] w w3) := ⟨by rw [e3]; exact (Chg.refl [] w).alloc _⟩; clear e3 HM3)
  go_loopw [5, 6, 7, 8] (fun v5 v6 v7 v8 wr => ∃ (cur st k : Nat) (run : Bool) (os : List ByteArray), v6 = .int .i64 cur ∧ v7 = .int .i64 st ∧ v8 = .bool run ∧ Aside0 (cur ≤ s.size ∧ st ≤ cur ∧ s.size < cur + k ∧ os.length ≤ 2 * cur ∧ (run = true → cur = 0 ∨ st < cur)) ∧ Aside0 (TRow wr v5 os) ∧ Aside0 (∀ g, v5.ownBlock = some g → w.heap.size ≤ g) ∧ Aside0 (Chg [] w wr) ∧ Aside0 (os ++ go s o k cur st run = parts s o)) (fun _ v6 _ _ _ => s.size - (intOf v6).toNat)
  case atStart => exact ⟨0, 0, s.size + 1, true, [], rfl, rfl, rfl, ⟨by simp⟩, HR3, ⟨fun g hg => by have : w.heap.size = g := (by injection hg); omega⟩, HC3, ⟨by rw [List.nil_append]; rfl⟩⟩
  case round =>
    clear HR3 HC3
    obtain ⟨cur, st, k, run, os, rfl, rfl, rfl, HI, HV, HG, HC, HP⟩ := hrel
    obtain ⟨hi1, hi2, hi3, hi4, hi5⟩ := HI.out
    have HI5 := Aside0.mk hi5
    clear hi5
    have HTW := Aside0.mk (HT.out.below (HC.out.toBelow (Nat.le_refl _) (by simp)))
    have HSW := Aside0.mk (HS.out.chg HC.out (by simp))
    have HGW : Aside0 (wr.heap[bs]? = some (.cells #[.bool o.each, .bool o.alpha, .bool o.num] 40 (0, 0))) := ⟨(HC.out.block bs HLT.out (by simp)).trans HSEG.out⟩
    by_cases hlt : cur < s.size
    · obtain ⟨k, rfl⟩ : ∃ k', k = k' + 1 := ⟨k - 1, by omega⟩
      have hd1 := sg_pos s cur hlt
      have hd2 := sg_le s cur hlt
      have hd3 := sg_rune s cur hlt
      have hdec := dec_calls wr bt (cap - cur) s cur hlt HSW.out HTW.out
      obtain ⟨x, hx⟩ : ∃ x, x = sg s cur := ⟨_, rfl⟩
      obtain ⟨q, hq⟩ : ∃ q, q = stk o x := ⟨_, rfl⟩
      have hgo : go s o (k + 1) cur st run = (if q then
        (if o.each then low (s.extract cur (cur + x.2)) :: go s o k (cur + x.2) (if run then st else cur) true
         else go s o k (cur + x.2) (if run then st else cur) true)
       else (if run && (decide (cur ≠ 0) && !o.each) then low (s.extract st cur) :: s.extract cur (cur + x.2) :: go s o k (cur + x.2) st false
         else s.extract cur (cur + x.2) :: go s o k (cur + x.2) st false)) := by
        rw [hq, hx]
        show (if cur < s.size then _ else _) = _
        rw [if_pos hlt]
      rw [← hx] at hd1 hd2 hd3 hdec
      obtain ⟨r, n⟩ := x
      dsimp only at hd1 hd2 hd3 hdec hgo
      unfold stk at hq
      dsimp only at hq
      have HDEC := Aside0.mk hdec
      have HGO := Aside0.mk hgo
      have HQ := Aside0.mk hq
      have hnum := fun W (h : Tabs W) => num_calls (r : Int) W (by omega) (by omega) h
      have hlet := fun W (h : Tabs W) => let_calls (r : Int) W (by omega) (by omega) h
      obtain ⟨nb, hnb⟩ : ∃ nb, nb = isNumberU (r : Int) := ⟨_, rfl⟩
      obtain ⟨lb, hlb⟩ : ∃ lb, lb = isLetterU (r : Int) := ⟨_, rfl⟩
      rw [← hnb] at hnum
      rw [← hlb] at hlet
      rw [← hnb, ← hlb] at hq
      have HQ := Aside0.mk hq
      have HNUM := Aside0.mk hnum
      have HLET := Aside0.mk hlet
      have k1 : decide ((cur : Int) < (s.size : Int)) = true := decide_eq_true (by omega)
      have k2 : decide (cur < s.size) = true := decide_eq_true hlt
      have k3 : ¬ cap = cur := by omega
      have k4 : (cur : Int) ≤ (s.size : Int) := by omega
      clear hdec hgo hq hnum hlet hnb hlb hx
      go_upto_region 6 with (go_at_call 25; refine HDEC.out.mono ?_; rintro e w1 ⟨rfl, hd⟩; have HD := Aside0.mk hd; clear hd HDEC)
      have HGW1 : Aside0 (w1.heap[bs]? = some (.cells #[.bool o.each, .bool o.alpha, .bool o.num] 40 (0, 0))) := ⟨(HD.out.block bs (by have := HC.out.size; have := HLT.out; omega) (by simp)).trans HGW.out⟩
      have HT1 := Aside0.mk (HTW.out.below (HD.out.toBelow (Nat.le_refl _) (by simp)))
      go_cut [11] (fun v11 wx => v11 = .bool (nb && !o.num) ∧ Aside0 (Chg [] w1 wx))
      case first =>
        cases nb with
        | false =>
          go_wp2_with (go_at_call 26; refine (HNUM.out _ HT1.out).mono ?_; rintro e w2 ⟨rfl, hd⟩; have HD2 := Aside0.mk hd; clear hd)
          go_meet
          exact ⟨rfl, HD2⟩
        | true =>
          go_wp2_with (go_at_call 26; refine (HNUM.out _ HT1.out).mono ?_; rintro e w2 ⟨rfl, hd⟩; have HD2 := Aside0.mk hd; have hseg : w2.heap[bs]? = some (.cells #[.bool o.each, .bool o.alpha, .bool o.num] 40 (0, 0)) := (hd.block bs (by have := HC.out.size; have := HLT.out; have := HD.out.size; omega) (by simp)).trans HGW1.out; have cc : w2.cell? ⟨bs, 2, none⟩ = some (.bool o.num) := (by simp [World.cell?, hseg]); clear hd hseg)
          go_meet
          exact ⟨by simp, HD2⟩
      case rest =>
        obtain ⟨rfl, HD2⟩ := hcut
        have HGW2 : Aside0 (wc.heap[bs]? = some (.cells #[.bool o.each, .bool o.alpha, .bool o.num] 40 (0, 0))) := ⟨(HD2.out.block bs (by have := HC.out.size; have := HLT.out; have := HD.out.size; omega) (by simp)).trans HGW1.out⟩
        have HT2 := Aside0.mk (HT1.out.below (HD2.out.toBelow (Nat.le_refl _) (by simp)))
        obtain ⟨wd, rfl⟩ : ∃ wd, wd = wc := ⟨_, rfl⟩
        go_upto_region 7 with fail
        go_cut [12] (fun v12 wx => v12 = .bool (lb && !o.alpha) ∧ Aside0 (Chg [] wd wx))
        case first =>
          cases lb with
          | false =>
            go_wp2_with (go_at_call 27; refine (HLET.out _ HT2.out).mono ?_; rintro e w2 ⟨rfl, hd⟩; have HD3 := Aside0.mk hd; clear hd)
            go_meet
            exact ⟨rfl, HD3⟩
          | true =>
            go_wp2_with (go_at_call 27; refine (HLET.out _ HT2.out).mono ?_; rintro e w2 ⟨rfl, hd⟩; have HD3 := Aside0.mk hd; have hseg : w2.heap[bs]? = some (.cells #[.bool o.each, .bool o.alpha, .bool o.num] 40 (0, 0)) := (hd.block bs (by have := HC.out.size; have := HLT.out; have := HD.out.size; have := HD2.out.size; omega) (by simp)).trans HGW2.out; have cc : w2.cell? ⟨bs, 1, none⟩ = some (.bool o.alpha) := (by simp [World.cell?, hseg]); clear hd hseg)
            go_meet
            exact ⟨by simp, HD3⟩
        case rest =>
          obtain ⟨rfl, HD3⟩ := hcut
          have HCX : Aside0 (Chg [] wr wc) := ⟨(HD.out.trans HD2.out).trans HD3.out⟩
          clear HD HD2 HD3 HGW1 HGW2 HT1 HT2 HNUM HLET
          obtain ⟨wx, rfl⟩ : ∃ wx, wx = wc := ⟨_, rfl⟩
          obtain ⟨b1, hb1⟩ : ∃ b1, b1 = (nb && !o.num) := ⟨_, rfl⟩
          obtain ⟨b2, hb2⟩ : ∃ b2, b2 = (lb && !o.alpha) := ⟨_, rfl⟩
          have HQ2 : Aside0 (q = (decide (n ≤ 2) && (b2 || b1))) := ⟨by rw [hb1, hb2]; exact HQ.out⟩
          rw [← hb1, ← hb2]
          clear hb1 hb2 HQ
          go_upto_region 8 with fail
          go_cut [53] (fun v53 wy => v53 = .bool q ∧ wx = wy)
          case first =>
            have hqq := HQ2.out
            clear HQ2
            subst hqq
            rcases (show n ≤ 2 ∨ 2 < n by omega) with hn | hn
            · have q1 : decide ((n : Int) ≤ 2) = true := decide_eq_true (by omega)
              have q2 : decide (n ≤ 2) = true := decide_eq_true hn
              cases b2 <;> cases b1
              all_goals go_wp2_with fail
              all_goals go_meet
              all_goals exact ⟨by simp [q2], rfl⟩
            · have q1 : decide ((n : Int) ≤ 2) = false := decide_eq_false (by omega)
              have q2 : decide (n ≤ 2) = false := decide_eq_false (by omega)
              go_wp2_with fail
              go_meet
              exact ⟨by simp [q2], rfl⟩
          case rest =>
            obtain ⟨rfl, rfl⟩ := hcut
            clear HQ2
            have HCW : Aside0 (Chg [] w wx) := ⟨HC.out.trans HCX.out⟩
            have hvx := HV.out.chg HCX.out
            obtain ⟨A5, c5, e5⟩ := hvx.slice
            obtain ⟨M, hM⟩ : ∃ M, os.length = M := ⟨_, rfl⟩
            rw [hM] at e5
            have hMl : M ≤ 2000 := by omega
            subst e5
            have HM := Aside0.mk hM
            have HVX := Aside0.mk hvx
            obtain ⟨ev, hev⟩ : ∃ ev, ev = o.each := ⟨_, rfl⟩
            have hseg : wx.heap[bs]? = some (.cells #[.bool o.each, .bool o.alpha, .bool o.num] 40 (0, 0)) := (HCX.out.block bs (by have := HC.out.size; have := HLT.out; omega) (by simp)).trans HGW.out
            have cc : wx.cell? ⟨bs, 0, none⟩ = some (.bool ev) := by rw [hev]; simp [World.cell?, hseg]
            have HGO2 := HGO.out
            rw [← hev] at HGO2
            have HGO := Aside0.mk HGO2
            have HPP := HP.out
            rw [HGO2] at HPP
            have HP := Aside0.mk HPP
            clear hev hseg HGO2 HPP hvx hM HV HTW HSW HGW HGO k1 k2
            have j1 : (cur : Int) ≤ (cur : Int) + (n : Int) := by omega
            have j2 : (cur : Int) + (n : Int) ≤ (cap : Int) := by omega
            cases q with
            | true =>
              cases ev with
              | true =>
                cases run with
                | true =>
                  go_wp2_with (first | (go_at_call 28; refine (low_at w wx bt s HS.out hl HCW.out cur n _ (by omega)).mono ?_; rintro e w4 ⟨b4, rfl, hp4, hc4⟩; have HP4 := Aside0.mk hp4; have HC4 : Aside0 (Chg [] w w4) := ⟨HCW.out.trans hc4⟩; have HV4 := Aside0.mk (HVX.out.chg hc4); clear hp4 hc4) | (at_builtin; refine wpList_addT (W := w4) rfl _ _ rfl A5 c5 os M HM.out rfl HV4.out (.slice (some ⟨b4, 0, none⟩) n n) _ rfl HP4.out (by omega) ?_; intro A6 c6 w6 hv6 hc6 hg6; have HV6 := Aside0.mk hv6; have HC6 : Aside0 (Chg [] w w6) := ⟨HC4.out.above hc6 (fun i hi => .inr (HG.out i (by simpa using hi)))⟩; have HG6 : Aside0 (∀ g, (Value.slice A6 (M + 1) c6).ownBlock = some g → w.heap.size ≤ g) := ⟨fun g hg => by rcases hg6 g hg with q | q; exact HG.out g q; exact Nat.le_trans HC4.out.size q⟩; clear hv6 hc6 hg6))
                  go_roundw
                  case rel => exact ⟨cur + n, st, k, true, os ++ [low (s.extract cur (cur + n))], by go_num, rfl, rfl, ⟨by have := HM.out; exact ⟨by omega, by omega, by omega, by simp; omega, fun _ => by omega⟩⟩, HV6, HG6, HC6, ⟨by have := HP.out; simpa using this⟩⟩
                  case measure => simp [intOf]; omega
                | false =>
                  go_wp2_with (first | (go_at_call 28; refine (low_at w wx bt s HS.out hl HCW.out cur n _ (by omega)).mono ?_; rintro e w4 ⟨b4, rfl, hp4, hc4⟩; have HP4 := Aside0.mk hp4; have HC4 : Aside0 (Chg [] w w4) := ⟨HCW.out.trans hc4⟩; have HV4 := Aside0.mk (HVX.out.chg hc4); clear hp4 hc4) | (at_builtin; refine wpList_addT (W := w4) rfl _ _ rfl A5 c5 os M HM.out rfl HV4.out (.slice (some ⟨b4, 0, none⟩) n n) _ rfl HP4.out (by omega) ?_; intro A6 c6 w6 hv6 hc6 hg6; have HV6 := Aside0.mk hv6; have HC6 : Aside0 (Chg [] w w6) := ⟨HC4.out.above hc6 (fun i hi => .inr (HG.out i (by simpa using hi)))⟩; have HG6 : Aside0 (∀ g, (Value.slice A6 (M + 1) c6).ownBlock = some g → w.heap.size ≤ g) := ⟨fun g hg => by rcases hg6 g hg with q | q; exact HG.out g q; exact Nat.le_trans HC4.out.size q⟩; clear hv6 hc6 hg6))
                  go_roundw
                  case rel => exact ⟨cur + n, cur, k, true, os ++ [low (s.extract cur (cur + n))], by go_num, rfl, rfl, ⟨by have := HM.out; exact ⟨by omega, by omega, by omega, by simp; omega, fun _ => by omega⟩⟩, HV6, HG6, HC6, ⟨by have := HP.out; simpa using this⟩⟩
                  case measure => simp [intOf]; omega
              | false =>
                cases run with
                | true =>
                  go_wp2_with fail
                  go_roundw
                  case rel => exact ⟨cur + n, st, k, true, os, by go_num, rfl, rfl, ⟨by have := HM.out; exact ⟨by omega, by omega, by omega, by omega, fun _ => by omega⟩⟩, HVX, HG, HCW, ⟨by have := HP.out; simpa using this⟩⟩
                  case measure => simp [intOf]; omega
                | false =>
                  go_wp2_with fail
                  go_roundw
                  case rel => exact ⟨cur + n, cur, k, true, os, by go_num, rfl, rfl, ⟨by have := HM.out; exact ⟨by omega, by omega, by omega, by omega, fun _ => by omega⟩⟩, HVX, HG, HCW, ⟨by have := HP.out; simpa using this⟩⟩
                  case measure => simp [intOf]; omega
            | false =>
              cases run with
              | false =>
                go_wp2_with (first | (at_builtin; refine wpList_addT (W := wx) rfl _ _ rfl A5 c5 os M HM.out rfl HVX.out (.slice (some ⟨bt, cur, none⟩) n (cap - cur)) _ rfl (cut_at w wx bt s HS.out HCW.out cur n _ (by omega)) (by omega) ?_; intro A6 c6 w6 hv6 hc6 hg6; have HV6 := Aside0.mk hv6; have HC6 : Aside0 (Chg [] w w6) := ⟨HCW.out.above hc6 (fun i hi => .inr (HG.out i (by simpa using hi)))⟩; have HG6 : Aside0 (∀ g, (Value.slice A6 (M + 1) c6).ownBlock = some g → w.heap.size ≤ g) := ⟨fun g hg => by rcases hg6 g hg with q | q; exact HG.out g q; exact Nat.le_trans HCW.out.size q⟩; clear hv6 hc6 hg6))
                go_roundw
                case rel => exact ⟨cur + n, st, k, false, os ++ [s.extract cur (cur + n)], by go_num, rfl, rfl, ⟨by have := HM.out; exact ⟨by omega, by omega, by omega, by simp; omega, fun h => by cases h⟩⟩, HV6, HG6, HC6, ⟨by have := HP.out; simpa using this⟩⟩
                case measure => simp [intOf]; omega
              | true =>
                rcases (show cur = 0 ∨ cur ≠ 0 by omega) with h0 | h0
                · have n1 : ((cur : Int) != 0) = false := bne_eq_false_iff_eq.2 (by omega)
                  have n2 : (cur != 0) = false := bne_eq_false_iff_eq.2 (by omega)
                  have HP0 : Aside0 (os ++ s.extract cur (cur + n) :: go s o k (cur + n) st false = parts s o) := ⟨by have := HP.out; simpa [h0] using this⟩
                  clear h0
                  go_wp2_with (first | (at_builtin; refine wpList_addT (W := wx) rfl _ _ rfl A5 c5 os M HM.out rfl HVX.out (.slice (some ⟨bt, cur, none⟩) n (cap - cur)) _ rfl (cut_at w wx bt s HS.out HCW.out cur n _ (by omega)) (by omega) ?_; intro A6 c6 w6 hv6 hc6 hg6; have HV6 := Aside0.mk hv6; have HC6 : Aside0 (Chg [] w w6) := ⟨HCW.out.above hc6 (fun i hi => .inr (HG.out i (by simpa using hi)))⟩; have HG6 : Aside0 (∀ g, (Value.slice A6 (M + 1) c6).ownBlock = some g → w.heap.size ≤ g) := ⟨fun g hg => by rcases hg6 g hg with q | q; exact HG.out g q; exact Nat.le_trans HCW.out.size q⟩; clear hv6 hc6 hg6))
                  go_roundw
                  case rel => exact ⟨cur + n, st, k, false, os ++ [s.extract cur (cur + n)], by go_num, rfl, rfl, ⟨by have := HM.out; exact ⟨by omega, by omega, by omega, by simp; omega, fun h => by cases h⟩⟩, HV6, HG6, HC6, ⟨by have := HP0.out; simpa using this⟩⟩
                  case measure => simp [intOf]; omega
                · have n1 : ((cur : Int) != 0) = true := bne_iff_ne.2 (by omega)
                  have n2 : (cur != 0) = true := bne_iff_ne.2 h0
                  cases ev with
                  | true =>
                    go_wp2_with (first | (at_builtin; refine wpList_addT (W := wx) rfl _ _ rfl A5 c5 os M HM.out rfl HVX.out (.slice (some ⟨bt, cur, none⟩) n (cap - cur)) _ rfl (cut_at w wx bt s HS.out HCW.out cur n _ (by omega)) (by omega) ?_; intro A6 c6 w6 hv6 hc6 hg6; have HV6 := Aside0.mk hv6; have HC6 : Aside0 (Chg [] w w6) := ⟨HCW.out.above hc6 (fun i hi => .inr (HG.out i (by simpa using hi)))⟩; have HG6 : Aside0 (∀ g, (Value.slice A6 (M + 1) c6).ownBlock = some g → w.heap.size ≤ g) := ⟨fun g hg => by rcases hg6 g hg with q | q; exact HG.out g q; exact Nat.le_trans HCW.out.size q⟩; clear hv6 hc6 hg6))
                    go_roundw
                    case rel => exact ⟨cur + n, st, k, false, os ++ [s.extract cur (cur + n)], by go_num, rfl, rfl, ⟨by have := HM.out; exact ⟨by omega, by omega, by omega, by simp; omega, fun h => by cases h⟩⟩, HV6, HG6, HC6, ⟨by have := HP.out; simpa using this⟩⟩
                    case measure => simp [intOf]; omega
                  | false =>
                    have HP0 : Aside0 (os ++ low (s.extract st cur) :: s.extract cur (cur + n) :: go s o k (cur + n) st false = parts s o) := ⟨by have := HP.out; simpa [h0] using this⟩
                    have j3 : ¬ cap = st := by omega
                    have j4 : (st : Int) ≤ (cur : Int) := by omega
                    have j5 : (cur : Int) ≤ (cap : Int) := by omega
                    go_wp2_with (first | (go_at_call 28; refine (low_at w wx bt s HS.out hl HCW.out st (cur - st) _ (by omega)).mono ?_; rintro e w4 ⟨b4, rfl, hp4, hc4⟩; rw [show st + (cur - st) = cur by omega] at hp4; have HP4 := Aside0.mk hp4; have HC4 : Aside0 (Chg [] w w4) := ⟨HCW.out.trans hc4⟩; have HV4 := Aside0.mk (HVX.out.chg hc4); clear hp4 hc4) | (at_builtin; refine wpList_addT (W := w4) rfl _ _ rfl A5 c5 os M HM.out rfl HV4.out (.slice (some ⟨b4, 0, none⟩) (cur - st) (cur - st)) _ rfl HP4.out (by omega) ?_; intro A6 c6 w6 hv6 hc6 hg6; have HV6 := Aside0.mk hv6; have HC6 : Aside0 (Chg [] w w6) := ⟨HC4.out.above hc6 (fun i hi => .inr (HG.out i (by simpa using hi)))⟩; have HG6 : Aside0 (∀ g, (Value.slice A6 (M + 1) c6).ownBlock = some g → w.heap.size ≤ g) := ⟨fun g hg => by rcases hg6 g hg with q | q; exact HG.out g q; exact Nat.le_trans HC4.out.size q⟩; clear hv6 hc6 hg6) | (at_builtin; refine wpList_addT (W := w6) rfl _ _ rfl A6 c6 (os ++ [low (s.extract st cur)]) (M + 1) (by simp [HM.out]) rfl HV6.out (.slice (some ⟨bt, cur, none⟩) n (cap - cur)) _ rfl (cut_at w w6 bt s HS.out HC6.out cur n _ (by omega)) (by omega) ?_; intro A8 c8 w8 hv8 hc8 hg8; have HV8 := Aside0.mk hv8; have HC8 : Aside0 (Chg [] w w8) := ⟨HC6.out.above hc8 (fun i hi => .inr (HG6.out i (by simpa using hi)))⟩; have HG8 : Aside0 (∀ g, (Value.slice A8 ((M + 1) + 1) c8).ownBlock = some g → w.heap.size ≤ g) := ⟨fun g hg => by rcases hg8 g hg with q | q; exact HG6.out g q; exact Nat.le_trans HC6.out.size q⟩; clear hv8 hc8 hg8))
                    go_roundw
                    case rel => exact ⟨cur + n, st, k, false, os ++ [low (s.extract st cur)] ++ [s.extract cur (cur + n)], by go_num, rfl, rfl, ⟨by have := HM.out; exact ⟨by omega, by omega, by omega, by simp; omega, fun h => by cases h⟩⟩, HV8, HG8, HC8, ⟨by have := HP0.out; simpa using this⟩⟩
                    case measure => simp [intOf]; omega
    · obtain ⟨k, rfl⟩ : ∃ k', k = k' + 1 := ⟨k - 1, by omega⟩
      have hgo : go s o (k + 1) cur st run = (if run && !o.each then (if cur ≠ 0 then [low (s.extract st cur)] else []) else []) := by
        show (if cur < s.size then _ else _) = _
        rw [if_neg hlt]
      have HPP := HP.out
      rw [hgo] at HPP
      obtain ⟨A5, c5, e5⟩ := HV.out.slice
      obtain ⟨M, hM⟩ : ∃ M, os.length = M := ⟨_, rfl⟩
      rw [hM] at e5
      have hMl : M ≤ 2000 := by omega
      subst e5
      have HM := Aside0.mk hM
      obtain ⟨ev, hev⟩ : ∃ ev, ev = o.each := ⟨_, rfl⟩
      have hseg := HGW.out
      have cc : wr.cell? ⟨bs, 0, none⟩ = some (.bool ev) := by rw [hev]; simp [World.cell?, hseg]
      rw [← hev] at HPP
      have HP := Aside0.mk HPP
      have k1 : decide ((cur : Int) < (s.size : Int)) = false := decide_eq_false (by omega)
      have k2 : decide (cur < s.size) = false := decide_eq_false hlt
      clear hgo HPP hM hev hseg HTW HSW HGW
      cases run with
      | false =>
        have HP0 : Aside0 (os = parts s o) := ⟨by have := HP.out; simpa using this⟩
        go_wp2_with fail
        go_ret
        exact ⟨_, rfl, by rw [← HP0.out]; exact HV.out, HC.out⟩
      | true =>
        cases ev with
        | true =>
          have HP0 : Aside0 (os = parts s o) := ⟨by have := HP.out; simpa using this⟩
          go_wp2_with fail
          go_ret
          exact ⟨_, rfl, by rw [← HP0.out]; exact HV.out, HC.out⟩
        | false =>
          rcases (show cur = 0 ∨ cur ≠ 0 by omega) with h0 | h0
          · have n1 : ((cur : Int) != 0) = false := bne_eq_false_iff_eq.2 (by omega)
            have n2 : (cur != 0) = false := bne_eq_false_iff_eq.2 (by omega)
            have HP0 : Aside0 (os = parts s o) := ⟨by have := HP.out; simpa [h0] using this⟩
            clear h0
            go_wp2_with fail
            go_ret
            exact ⟨_, rfl, by rw [← HP0.out]; exact HV.out, HC.out⟩
          · have n1 : ((cur : Int) != 0) = true := bne_iff_ne.2 (by omega)
            have n2 : (cur != 0) = true := bne_iff_ne.2 h0
            have HP0 : Aside0 (os ++ [low (s.extract st cur)] = parts s o) := ⟨by have := HP.out; simpa [h0] using this⟩
            have j3 : ¬ cap = st := by have := HI5.out rfl; omega
            have j4 : (st : Int) ≤ (cur : Int) := by omega
            have j5 : (cur : Int) ≤ (cap : Int) := by omega
            go_wp2_with (first | (go_at_call 28; refine (low_at w wr bt s HS.out hl HC.out st (cur - st) _ (by omega)).mono ?_; rintro e w4 ⟨b4, rfl, hp4, hc4⟩; rw [show st + (cur - st) = cur by omega] at hp4; have HP4 := Aside0.mk hp4; have HC4 : Aside0 (Chg [] w w4) := ⟨HC.out.trans hc4⟩; have HV4 := Aside0.mk (HV.out.chg hc4); clear hp4 hc4) | (at_builtin; refine wpList_addT (W := w4) rfl _ _ rfl A5 c5 os M HM.out rfl HV4.out (.slice (some ⟨b4, 0, none⟩) (cur - st) (cur - st)) _ rfl HP4.out (by omega) ?_; intro A6 c6 w6 hv6 hc6 hg6; have HV6 := Aside0.mk hv6; have HC6 : Aside0 (Chg [] w w6) := ⟨HC4.out.above hc6 (fun i hi => .inr (HG.out i (by simpa using hi)))⟩; have HG6 : Aside0 (∀ g, (Value.slice A6 (M + 1) c6).ownBlock = some g → w.heap.size ≤ g) := ⟨fun g hg => by rcases hg6 g hg with q | q; exact HG.out g q; exact Nat.le_trans HC4.out.size q⟩; clear hv6 hc6 hg6))
            go_ret
            exact ⟨_, rfl, by rw [← HP0.out]; exact HV6.out, HC6.out⟩
end Go.Proofs.YthecfligfhpccaaDoor.Pa
namespace Go.Proofs.YthecfligfhpccaaDoor.Pa
open Go.RowKit Go.Lib Go.Proofs.YthecfligfhpccaaDoorW.PrintWords Go.Proofs.YthecfligfhpccaaDoor.Gn Go.Proofs.YthecfligfhpccaaDoor.X
theorem infoStr : (Tryd.prog.info? 9).map (fun i => (i.zero, i.size, i.bytes)) = some (some (.string ⟨#[]⟩), 1, 16) := by kernel_rfl
theorem str_ints (s : ByteArray) : strOfNums ((List.range s.size).map (byt s)) = s := by
  unfold strOfNums
  cases s with
  | mk a =>
    congr 1
    apply Array.ext
    · simp; rfl
    · intro i h1 h2
      simp only [List.getElem_toArray, List.getElem_map, List.getElem_range]
      rw [byt_eq ⟨a⟩ i h2]
      simp
/-- string(x) where x is a slice of the bytes p. -/
theorem PRd.string {P : Program} {w : World} {b o c : Nat} {p : ByteArray} (h : RdB w b o p) (hp : p.size ≤ 1000000) {src dst e : TypeId} (hs : P.underlying src = some (.slice e)) (he : P.underlying e = some (.int .u8)) (hd : P.underlying dst = some .string) :
    (convert src dst (.slice (some ⟨b, o, none⟩) p.size c)).run P w = .ok (.string p) w := by
  have hr : ReadsInt w .u8 (some ⟨b, o, none⟩) p.size ((List.range p.size).map (byt p)) := by
    refine ⟨by simp, by omega, fun _ => ⟨_, rfl, fun j hj => ?_⟩⟩
    have := h.cell j hj
    have e1 : (Addr.add ⟨b, o, none⟩ j) = ⟨b, o + j, none⟩ := by unfold Addr.add; split <;> simp_all
    rw [e1, this]
    simp [hj]
  have := string_of_reads (P := P) (src := src) (dst := dst) (e := e) (c := c) hs he hd hr
  rw [str_ints] at this
  exact this
theorem bytes_RdB (w : World) (s : ByteArray) : RdB (Lib.bytesWorld w 5 s) w.heap.size 0 s := by
  have h1 := Lib.bytesWorld_at_new w 5 s
  refine ⟨_, _, h1, fun j hj => ?_⟩
  have h2 := Lib.bytesWorld_cell w 5 s j hj
  have h3 : j < s.data.toList.length := by rw [Array.length_toList]; exact hj
  unfold World.cell? at h2
  rw [h1] at h2
  rw [Nat.zero_add, byt_eq s j hj]
  simpa [List.getD_eq_getElem?_getD, List.getElem?_eq_getElem h3] using h2
theorem bytes_chg (w : World) (s : ByteArray) : Chg [] w (Lib.bytesWorld w 5 s) := ⟨rfl, rfl, rfl, by rw [Lib.bytesWorld_size]; omega, fun i hi _ => Lib.bytesWorld_at_old w 5 s i hi⟩
def SrPost (ps : List ByteArray) (w : World) (e : Ending) (w' : World) : Prop := ∃ v, e = .returned v ∧ ORow w' 9 v (ps.map Value.string) ∧ Chg [] w w' ∧ ∀ g, v.ownBlock = some g → w.heap.size ≤ g
set_option maxHeartbeats 4000000 in
set_option maxRecDepth 100000 in
theorem implParts_calls (w : World) (s : ByteArray) (o : Opt) (hl : s.size ≤ 1000) (hT : Tabs w) :
    Calls Tryd.prog 6 #[.string s, .bool o.each, .bool o.alpha, .bool o.num] w (SrPost (parts s o) w) := by
  have hbz := print_bytes (P := Tryd.prog) 9 44 5 Tryd.underlying9 Tryd.underlying44 Tryd.underlying5 s
  have HT := Aside0.mk hT
  obtain ⟨e1, h1⟩ : ∃ e1, e1 = o.each := ⟨_, rfl⟩
  obtain ⟨e2, h2⟩ : ∃ e2, e2 = o.alpha := ⟨_, rfl⟩
  obtain ⟨e3, h3⟩ : ∃ e3, e3 = o.num := ⟨_, rfl⟩
  rw [← h1, ← h2, ← h3]
  have H1 := Aside0.mk h1
  have H2 := Aside0.mk h2
  have H3 := Aside0.mk h3
  obtain ⟨wa, hwa⟩ : ∃ wa, wa = w.alloc (.cells #[.bool e1, .bool e2, .bool e3] 40) := ⟨_, rfl⟩
  have hza : wa.heap.size = w.heap.size + 1 := by rw [hwa]; exact size_alloc _ _
  have hca : Chg [] w wa := by rw [hwa]; exact (Chg.refl [] w).alloc _
  have hcb := hca.trans (bytes_chg wa s)
  have hsp := split_calls (Lib.bytesWorld wa 5 s) w.heap.size wa.heap.size (grownCap wa s.size 0 5) s o (by rw [Lib.bytesWorld_at_old wa 5 s _ (by omega), hwa, h1, h2, h3]; exact heap_alloc_new _ _) (bytes_RdB wa s) (grownCap_ge _ _ _ _) hl (hT.below (hcb.toBelow (Nat.le_refl _) (by simp)))
  rw [hza] at hsp
  rw [hwa] at hsp hcb
  have HSP := Aside0.mk hsp
  have HCB := Aside0.mk hcb
  have HPL : Aside0 ((parts s o).length ≤ 100000) := ⟨by have := (go_small s o (s.size + 1) 0 0 true).1; unfold parts; omega⟩
  have HPS : Aside0 (∀ p ∈ parts s o, p.size ≤ 1000) := ⟨fun p hp => by have := (go_small s o (s.size + 1) 0 0 true).2 p hp; omega⟩
  obtain ⟨ps, hps⟩ : ∃ ps, ps = parts s o := ⟨_, rfl⟩
  unfold SpPost at hsp
  rw [← hps] at HPL HPS
  have HPP := Aside0.mk hps
  rw [← hps]
  clear hT h1 h2 h3 hwa hza hca hcb hsp hps
  go_enter Tryd.func6, Tryd.ntmps6
  go_wp2_with (go_at_call 18; refine HSP.out.mono ?_; rintro e w1 ⟨v, rfl, hv, hc⟩; rw [← HPP.out] at hv; obtain ⟨A1, c1, e1'⟩ := hv.slice; obtain ⟨M, hM⟩ : ∃ M, M = ps.length := ⟨_, rfl⟩; rw [← hM] at e1'; subst e1'; have HM := Aside0.mk hM; have HV := Aside0.mk hv; have HC : Aside0 (Chg [] w w1) := ⟨HCB.out.trans hc⟩; clear hv hc hM HSP HCB)
  clear hbz
  go_loopw [10, 21] (fun v10 v21 wr => ∃ k : Nat, v21 = .int .i64 k ∧ Aside0 (k ≤ M) ∧ Aside0 (ORow wr 9 v10 ((ps.take k).map Value.string)) ∧ Aside0 (∀ g, v10.ownBlock = some g → w1.heap.size ≤ g) ∧ Aside0 (Chg [] w1 wr)) (fun _ v21 _ => M - (intOf v21).toNat)
  case atStart => exact ⟨0, rfl, ⟨Nat.zero_le _⟩, ⟨ORow.nil _ _⟩, ⟨fun g hg => by cases hg⟩, ⟨Chg.refl _ _⟩⟩
  case round =>
    obtain ⟨k, rfl, HI, HR, HG, HCR⟩ := hrel
    by_cases hlt : k < M
    · have hkl : k < ps.length := by rw [← HM.out]; exact hlt
      obtain ⟨xs, hx1, hx2, hx3⟩ := HV.out.chg HCR.out
      obtain ⟨y, hy1, b, off, cc, rfl, hy2⟩ := hx3 k hkl
      obtain ⟨p, hp⟩ : ∃ p, p = ps[k] := ⟨_, rfl⟩
      rw [← hp] at hy1 hy2
      have hps2 := HPS.out p (by rw [hp]; exact List.getElem_mem _)
      have HTK : Aside0 ((ps.take (k + 1)).map Value.string = (ps.take k).map Value.string ++ [.string p]) := ⟨by rw [List.take_succ_eq_append_getElem hkl, List.map_append, hp]; rfl⟩
      obtain ⟨A2, c2, e2', hc2, hA2, _⟩ := hx1.slice
      have hxl : xs.length = M := by rw [hx2, HM.out]
      injection e2' with e2' e2'' e2'''
      obtain ⟨g1, hg1⟩ := hA2 (fun e => by rw [e] at hxl; simp at hxl; omega)
      rw [hg1] at e2'
      subst e2'
      have hcell : wr.cell? ⟨g1, k, none⟩ = some (.slice (some ⟨b, off, none⟩) p.size cc) := by
        have := hx1.cell k (by omega)
        rw [this]
        rw [List.getElem?_eq_getElem (by omega)] at hy1
        exact hy1
      obtain ⟨A3, c3, e3', _⟩ := HR.out.slice
      have hl3 : ((ps.take k).map Value.string).length = k := by rw [List.length_map, List.length_take]; omega
      rw [hl3] at e3'
      subst e3'
      have hst := PRd.string (P := Tryd.prog) (c := cc) hy2 (by omega) (src := 44) (dst := 9) (e := 5) Tryd.underlying44 Tryd.underlying5 Tryd.underlying9
      have HLM : Aside0 (M ≤ 100000) := ⟨by rw [HM.out]; exact HPL.out⟩
      have HL3 := Aside0.mk hl3
      have hlm := HLM.out
      have k1 : decide ((0:Int) ≤ (k:Int)) = true := decide_eq_true (by omega)
      have k2 : decide ((k:Int) < (M:Int)) = true := decide_eq_true (by omega)
      have k3 : decide (k < M) = true := decide_eq_true hlt
      clear hy1 hx3 hx2 hxl hp hl3 hx1 hg1 hA2 e2'' e2''' hc2
      go_wp2_with (at_builtin; refine wpList_append1 rfl _ _ 22 rfl 9 (.string ⟨#[]⟩) 16 Tryd.underlying22 infoStr rfl (.slice A3 k c3) ((ps.take k).map Value.string) rfl (HR.out.chg ((Chg.refl [] wr).alloc _) (by simp)) wr.heap.size (.string p) rfl (by simp) rfl (by rw [HL3.out]; have := HLM.out; omega) (by rw [HL3.out]; unfold maxLen; have := HLM.out; omega) ?_; intro v5 w5 hr5 hc5 ho5; have HR5 := Aside0.mk hr5; have HO5 := Aside0.mk ho5; have HC5 := Aside0.mk hc5; clear hr5 hc5 ho5)
      go_roundw
      case rel => exact ⟨k + 1, by go_num, ⟨by omega⟩, ⟨by rw [HTK.out]; exact HR5.out⟩, ⟨fun g hg => by rcases HO5.out with q | q; exact HG.out g (by rw [← q]; exact hg); rw [hg] at q; have q2 : g = _ := (by injection q); rw [q2, size_alloc]; have := HCR.out.size; omega⟩, ⟨(HCR.out.alloc _).above HC5.out (fun i hi => .inr (HG.out i (by simpa using hi)))⟩⟩
      case measure => simp [intOf]; omega
    · have hk : k = ps.length := by have := HI.out; have := HM.out; omega
      have hR := HR.out
      rw [hk, List.take_length] at hR
      have HRX := Aside0.mk hR
      have k1 : decide (k < M) = false := decide_eq_false hlt
      have k2 : decide ((k:Int) < (M:Int)) = false := decide_eq_false (by omega)
      clear hk hR
      go_wp2_with fail
      go_ret
      exact ⟨_, rfl, HRX.out, HC.out.trans HCR.out, fun g hg => Nat.le_trans HC.out.size (HG.out g hg)⟩
end Go.Proofs.YthecfligfhpccaaDoor.Pa
namespace Go.Proofs.YthecfligfhpccaaDoor.P
open Go.RowKit Go.Proofs.YthecfligfhpccaaDoorW.PrintWords Go.Proofs.YthecfligfhpccaaDoor.Gn Go.Proofs.YthecfligfhpccaaDoor.Pa Go.Proofs.YthecfligfhpccaaDoor.X
def impl_Parts.f (x : ByteArray) (e a n : Bool) : Option (List ByteArray) := if x.size ≤ 1000 then some (parts x ⟨e, a, n⟩) else none
theorem impl_Parts.calls (x : ByteArray) (e a n : Bool) (r : List ByteArray) (w : World) (ht : Tabs w) (h : impl_Parts.f x e a n = some r) :
    Calls Tryd.prog 6 #[.string x, .bool e, .bool a, .bool n] w fun e w' => ∃ v0_ : Value, e = .returned v0_ ∧ Kd.R Kd.string 9 w' w.heap.size (fun _ => True) v0_ r ∧ Below w.heap.size w w' := by
  unfold impl_Parts.f at h
  split at h
  case isFalse => cases h
  rename_i hok
  injection h with h
  subst h
  refine (implParts_calls w x ⟨e, a, n⟩ hok ht).mono ?_
  rintro e w' ⟨v, rfl, hr, hc, hg⟩
  exact ⟨v, rfl, R_of_row (enc := Value.string) hr (fun g hq => ⟨hg g hq, trivial⟩), hc.toBelow (Nat.le_refl _) (by simp)⟩
end Go.Proofs.YthecfligfhpccaaDoor.P
namespace Go.Proofs.YthecfligfhpccaaDoor.Pa
open Go.RowKit Go.Lib Go.Proofs.YthecfligfhpccaaDoorW.PrintWords Go.Proofs.YthecfligfhpccaaDoor.Gn Go.Proofs.YthecfligfhpccaaDoor.X
/-- Block b holds these numbers as bytes, of the call's own. -/
def WrB (w : World) (b n : Nat) (f : Nat → Int) : Prop := ∃ cs, w.heap[b]? = some (.cells cs 5 (cs.size, cs.size + 1)) ∧ n ≤ cs.size ∧ ∀ j, j < n → cs[j]? = some (.int .u8 (f j))
theorem WrB.lt {w : World} {b n : Nat} {f : Nat → Int} (h : WrB w b n f) : b < w.heap.size := by
  obtain ⟨cs, h, _⟩ := h
  exact (Array.getElem?_eq_some_iff.1 h).1
theorem WrB.cell {w : World} {b n : Nat} {f : Nat → Int} (h : WrB w b n f) (j : Nat) (hj : j < n) : w.cell? ⟨b, j, none⟩ = some (.int .u8 (f j)) := by
  obtain ⟨cs, h1, _, h2⟩ := h
  simp [World.cell?, h1, h2 j hj]
theorem WrB.frozen {w : World} {b n : Nat} {f : Nat → Int} (h : WrB w b n f) (j : Nat) (hj : j < n) : w.frozen? ⟨b, j, none⟩ = false := by
  obtain ⟨cs, h1, h3, h2⟩ := h
  simp [World.frozen?, h1]
  omega
theorem WrB.set {w : World} {b n : Nat} {f : Nat → Int} (h : WrB w b n f) (i : Nat) (hi : i < n) (x : Int) : WrB (w.setCell ⟨b, i, none⟩ (.int .u8 x)) b n (fun j => if j = i then x else f j) := by
  obtain ⟨cs, h1, h3, h2⟩ := h
  refine ⟨cs.setIfInBounds i (.int .u8 x), ?_, by simpa using h3, fun j hj => ?_⟩
  · have := heap_put w ⟨b, i, none⟩ _ _ _ (.int .u8 x) h1 rfl
    rw [this]
    simp
  · rw [Array.getElem?_setIfInBounds]
    dsimp only
    by_cases e : i = j
    · subst e; rw [if_pos rfl, if_pos (by omega), if_pos rfl]
    · rw [if_neg e, if_neg (fun g => e g.symm), h2 j hj]
theorem WrB.ext {w : World} {b n : Nat} {f g : Nat → Int} (h : WrB w b n f) (hf : ∀ j, j < n → f j = g j) : WrB w b n g := by
  obtain ⟨cs, h1, h3, h2⟩ := h
  exact ⟨cs, h1, h3, fun j hj => by rw [h2 j hj, hf j hj]⟩
theorem WrB.rd {w : World} {b : Nat} {p : ByteArray} {f : Nat → Int} (h : WrB w b p.size f) (hf : ∀ j, j < p.size → f j = byt p j) : RdB w b 0 p := by
  obtain ⟨cs, h1, h3, h2⟩ := h
  exact ⟨cs, _, h1, fun j hj => by rw [Nat.zero_add, h2 j hj, hf j hj]⟩
theorem bytes_WrB (w : World) (s : ByteArray) : WrB (Lib.bytesWorld w 5 s) w.heap.size s.size (byt s) := by
  have h1 := Lib.bytesWorld_at_new w 5 s
  obtain ⟨cs, fr, h2, h3⟩ := bytes_RdB w s
  rw [h1] at h2
  injection h2 with h2
  injection h2 with h2 _ _
  subst h2
  refine ⟨_, h1, ?_, fun j hj => by have := h3 j hj; rwa [Nat.zero_add] at this⟩
  unfold Lib.bytesCells
  simp only [Array.size_append, Array.size_map]
  show s.data.size ≤ _
  omega
set_option maxHeartbeats 2000000 in
set_option maxRecDepth 100000 in
theorem lowered_calls (w : World) (s : ByteArray) (hl : s.size ≤ 1000000) : Calls Tryd.prog 8 #[.string s] w fun e w' => e = .returned (.string (low s)) ∧ Below w.heap.size w w' := by
  have hbz := print_bytes (P := Tryd.prog) 9 43 5 Tryd.underlying9 Tryd.underlying43 Tryd.underlying5 s
  have HW := Aside0.mk (bytes_WrB w s)
  have HC := Aside0.mk (bytes_chg w s)
  go_enter Tryd.func8, Tryd.ntmps8
  go_wp2_with fail
  clear hbz
  go_loopw [9] (fun v9 wr => ∃ i : Nat, v9 = .int .i64 i ∧ Aside0 (i ≤ s.size) ∧ Aside0 (WrB wr w.heap.size s.size (fun j => if j < i then lowI (byt s j) else byt s j)) ∧ Aside0 (Chg [] w wr)) (fun v9 _ => s.size - (intOf v9).toNat)
  case atStart => exact ⟨0, rfl, ⟨Nat.zero_le _⟩, ⟨HW.out.ext (fun j _ => by rw [if_neg (by omega)])⟩, HC⟩
  case round =>
    clear HW HC
    obtain ⟨i, rfl, HI, HW, HC⟩ := hrel
    by_cases hlt : i < s.size
    · have c1 := HW.out.cell i hlt
      rw [if_neg (Nat.lt_irrefl i)] at c1
      have f1 := HW.out.frozen i hlt
      have hrg := byt_range s i
      obtain ⟨x, hx⟩ : ∃ x, x = byt s i := ⟨_, rfl⟩
      rw [← hx] at c1 hrg
      have HX := Aside0.mk hx
      have HW4 : Aside0 (WrB (wr.setCell ⟨w.heap.size, i, none⟩ (.int .u8 (lowI x))) w.heap.size s.size (fun j => if j < i + 1 then lowI (byt s j) else byt s j)) := ⟨(HW.out.set i hlt (lowI x)).ext (fun j _ => by
        by_cases e : j = i
        · subst e; rw [if_pos rfl, if_pos (by omega), hx]
        · rw [if_neg e]
          by_cases e2 : j < i
          · rw [if_pos e2, if_pos (by omega)]
          · rw [if_neg e2, if_neg (by omega)])⟩
      have HC4 : Aside0 (Chg [] w (wr.setCell ⟨w.heap.size, i, none⟩ (.int .u8 (lowI x)))) := ⟨HC.out.setCell (.inr (Nat.le_refl _)) _⟩
      have HW5 : lowI x = x → Aside0 (WrB wr w.heap.size s.size (fun j => if j < i + 1 then lowI (byt s j) else byt s j)) := fun e => ⟨HW.out.ext (fun j _ => by
        by_cases e1 : j = i
        · subst e1; rw [if_neg (by omega), if_pos (by omega), ← hx, e]
        · by_cases e2 : j < i
          · rw [if_pos e2, if_pos (by omega)]
          · rw [if_neg e2, if_neg (by omega)])⟩
      have k1 : decide ((0:Int) ≤ (i:Int)) = true := decide_eq_true (by omega)
      have k2 : decide ((i:Int) < (s.size:Int)) = true := decide_eq_true (by omega)
      clear hx
      rcases (show x < 65 ∨ (65 ≤ x ∧ x ≤ 90) ∨ (65 ≤ x ∧ 90 < x) by omega) with h1 | ⟨h1, h2⟩ | ⟨h1, h2⟩
      · have q1 : decide (x ≥ 65) = false := decide_eq_false (by omega)
        have HW6 := HW5 (by unfold lowI; rw [if_neg (by omega)])
        clear HW5
        go_wp2_with fail
        go_roundw
        case rel => exact ⟨i + 1, by go_num, ⟨by omega⟩, HW6, HC⟩
        case measure => simp [intOf]; omega
      · have q1 : decide (x ≥ 65) = true := decide_eq_true (by omega)
        have q2 : decide (x ≤ 90) = true := decide_eq_true (by omega)
        have hl : lowI x = x + 32 := by unfold lowI; rw [if_pos (by omega)]
        rw [hl] at HW4 HC4
        clear hl HW5
        go_wp2_with fail
        go_roundw
        case rel => exact ⟨i + 1, by go_num, ⟨by omega⟩, HW4, HC4⟩
        case measure => simp [intOf]; omega
      · have q1 : decide (x ≥ 65) = true := decide_eq_true (by omega)
        have q2 : decide (x ≤ 90) = false := decide_eq_false (by omega)
        have HW6 := HW5 (by unfold lowI; rw [if_neg (by omega)])
        clear HW5
        go_wp2_with fail
        go_roundw
        case rel => exact ⟨i + 1, by go_num, ⟨by omega⟩, HW6, HC⟩
        case measure => simp [intOf]; omega
    · have hi : i = s.size := by have := HI.out; omega
      have hr : RdB wr w.heap.size 0 (low s) := by
        have h := HW.out
        have hz := low_size s
        rw [← hz] at h
        refine h.rd (fun j hj => ?_)
        rw [hz] at hj
        rw [if_pos (by omega), byt_low s j hj]
      have hst := fun c => PRd.string (P := Tryd.prog) (c := c) hr (by rw [low_size]; omega) (src := 43) (dst := 9) (e := 5) Tryd.underlying43 Tryd.underlying5 Tryd.underlying9
      rw [low_size] at hst
      have k1 : decide (i < s.size) = false := decide_eq_false hlt
      have k2 : decide ((i:Int) < (s.size:Int)) = false := decide_eq_false (by omega)
      clear hi hr
      go_wp2_with fail
      go_ret
      exact ⟨rfl, HC.out.toBelow (Nat.le_refl _) (by simp)⟩
end Go.Proofs.YthecfligfhpccaaDoor.Pa
namespace Go.Proofs.YthecfligfhpccaaDoor.P
open Go.RowKit Go.Proofs.YthecfligfhpccaaDoorW.PrintWords Go.Proofs.YthecfligfhpccaaDoor.Gn Go.Proofs.YthecfligfhpccaaDoor.Pa Go.Proofs.YthecfligfhpccaaDoor.X
def laws_lowered.f (x : ByteArray) : Option ByteArray := if x.size ≤ 1000000 then some (low x) else none
theorem laws_lowered.calls (x : ByteArray) (r : ByteArray) (w : World) (h : laws_lowered.f x = some r) :
    Calls Tryd.prog 8 #[.string x] w fun e w' => e = .returned (.string r) ∧ Below w.heap.size w w' := by
  unfold laws_lowered.f at h
  split at h
  case isFalse => cases h
  rename_i hok
  injection h with h
  subst h
  exact lowered_calls w x hok
end Go.Proofs.YthecfligfhpccaaDoor.P
namespace Go.Proofs.YthecfligfhpccaaDoor.Pa
open Go.RowKit Go.Lib Go.Proofs.YthecfligfhpccaaDoorW.PrintWords Go.Proofs.YthecfligfhpccaaDoor.Gn Go.Proofs.YthecfligfhpccaaDoor.X
set_option maxHeartbeats 2000000 in
set_option maxRecDepth 100000 in
theorem specLow_calls (w : World) (s : ByteArray) (hl : s.size ≤ 1000000) : Calls Tryd.prog 22 #[.string s] w fun e w' => e = .returned (.string (low s)) ∧ Below w.heap.size w w' := by
  have hbz := print_bytes (P := Tryd.prog) 9 43 5 Tryd.underlying9 Tryd.underlying43 Tryd.underlying5 s
  have HW := Aside0.mk (bytes_WrB w s)
  have HC := Aside0.mk (bytes_chg w s)
  go_enter Tryd.func22, Tryd.ntmps22
  go_wp2_with fail
  clear hbz
  go_loopw [10] (fun v10 wr => ∃ i : Nat, v10 = .int .i64 i ∧ Aside0 (i ≤ s.size) ∧ Aside0 (WrB wr w.heap.size s.size (fun j => if j < i then lowI (byt s j) else byt s j)) ∧ Aside0 (Chg [] w wr)) (fun v10 _ => s.size - (intOf v10).toNat)
  case atStart => exact ⟨0, rfl, ⟨Nat.zero_le _⟩, ⟨HW.out.ext (fun j _ => by rw [if_neg (by omega)])⟩, HC⟩
  case round =>
    clear HW HC
    obtain ⟨i, rfl, HI, HW, HC⟩ := hrel
    by_cases hlt : i < s.size
    · have c1 := HW.out.cell i hlt
      rw [if_neg (Nat.lt_irrefl i)] at c1
      have f1 := HW.out.frozen i hlt
      have hrg := byt_range s i
      obtain ⟨x, hx⟩ : ∃ x, x = byt s i := ⟨_, rfl⟩
      rw [← hx] at c1 hrg
      have HX := Aside0.mk hx
      have HW4 : Aside0 (WrB (wr.setCell ⟨w.heap.size, i, none⟩ (.int .u8 (lowI x))) w.heap.size s.size (fun j => if j < i + 1 then lowI (byt s j) else byt s j)) := ⟨(HW.out.set i hlt (lowI x)).ext (fun j _ => by
        by_cases e : j = i
        · subst e; rw [if_pos rfl, if_pos (by omega), hx]
        · rw [if_neg e]
          by_cases e2 : j < i
          · rw [if_pos e2, if_pos (by omega)]
          · rw [if_neg e2, if_neg (by omega)])⟩
      have HC4 : Aside0 (Chg [] w (wr.setCell ⟨w.heap.size, i, none⟩ (.int .u8 (lowI x)))) := ⟨HC.out.setCell (.inr (Nat.le_refl _)) _⟩
      have HW5 : lowI x = x → Aside0 (WrB wr w.heap.size s.size (fun j => if j < i + 1 then lowI (byt s j) else byt s j)) := fun e => ⟨HW.out.ext (fun j _ => by
        by_cases e1 : j = i
        · subst e1; rw [if_neg (by omega), if_pos (by omega), ← hx, e]
        · by_cases e2 : j < i
          · rw [if_pos e2, if_pos (by omega)]
          · rw [if_neg e2, if_neg (by omega)])⟩
      have k1 : decide ((0:Int) ≤ (i:Int)) = true := decide_eq_true (by omega)
      have k2 : decide ((i:Int) < (s.size:Int)) = true := decide_eq_true (by omega)
      clear hx
      rcases (show x < 65 ∨ (65 ≤ x ∧ x ≤ 90) ∨ (65 ≤ x ∧ 90 < x) by omega) with h1 | ⟨h1, h2⟩ | ⟨h1, h2⟩
      · have q1 : decide (x ≥ 65) = false := decide_eq_false (by omega)
        have HW6 := HW5 (by unfold lowI; rw [if_neg (by omega)])
        clear HW5
        go_wp2_with fail
        go_roundw
        case rel => exact ⟨i + 1, by go_num, ⟨by omega⟩, HW6, HC⟩
        case measure => simp [intOf]; omega
      · have q1 : decide (x ≥ 65) = true := decide_eq_true (by omega)
        have q2 : decide (x ≤ 90) = true := decide_eq_true (by omega)
        have hl : lowI x = x + 32 := by unfold lowI; rw [if_pos (by omega)]
        rw [hl] at HW4 HC4
        clear hl HW5
        go_wp2_with fail
        go_roundw
        case rel => exact ⟨i + 1, by go_num, ⟨by omega⟩, HW4, HC4⟩
        case measure => simp [intOf]; omega
      · have q1 : decide (x ≥ 65) = true := decide_eq_true (by omega)
        have q2 : decide (x ≤ 90) = false := decide_eq_false (by omega)
        have HW6 := HW5 (by unfold lowI; rw [if_neg (by omega)])
        clear HW5
        go_wp2_with fail
        go_roundw
        case rel => exact ⟨i + 1, by go_num, ⟨by omega⟩, HW6, HC⟩
        case measure => simp [intOf]; omega
    · have hi : i = s.size := by have := HI.out; omega
      have hr : RdB wr w.heap.size 0 (low s) := by
        have h := HW.out
        have hz := low_size s
        rw [← hz] at h
        refine h.rd (fun j hj => ?_)
        rw [hz] at hj
        rw [if_pos (by omega), byt_low s j hj]
      have hst := fun c => PRd.string (P := Tryd.prog) (c := c) hr (by rw [low_size]; omega) (src := 43) (dst := 9) (e := 5) Tryd.underlying43 Tryd.underlying5 Tryd.underlying9
      rw [low_size] at hst
      have k1 : decide (i < s.size) = false := decide_eq_false hlt
      have k2 : decide ((i:Int) < (s.size:Int)) = false := decide_eq_false (by omega)
      clear hi hr
      go_wp2_with fail
      go_ret
      exact ⟨rfl, HC.out.toBelow (Nat.le_refl _) (by simp)⟩

set_option maxHeartbeats 2000000 in
set_option maxRecDepth 100000 in
theorem sticks_calls (w : World) (r n : Nat) (o : Opt) (hr : r ≤ 1114111) (hn : n ≤ 100) (hT : Tabs w) : Calls Tryd.prog 21 #[.int .i32 (r : Int), .int .i64 (n : Int), .bool o.alpha, .bool o.num] w fun e w' => e = .returned (.bool (stk o (r, n))) ∧ Chg [] w w' := by
  have hnum := fun W (h : Tabs W) => num_calls (r : Int) W (by omega) (by omega) h
  have hlet := fun W (h : Tabs W) => let_calls (r : Int) W (by omega) (by omega) h
  obtain ⟨q, hq⟩ : ∃ q, q = stk o (r, n) := ⟨_, rfl⟩
  rw [← hq]
  unfold stk at hq
  dsimp only at hq
  obtain ⟨nb, hnb⟩ : ∃ nb, nb = isNumberU (r : Int) := ⟨_, rfl⟩
  obtain ⟨lb, hlb⟩ : ∃ lb, lb = isLetterU (r : Int) := ⟨_, rfl⟩
  rw [← hnb] at hnum
  rw [← hlb] at hlet
  rw [← hnb, ← hlb] at hq
  obtain ⟨al, hal⟩ : ∃ al, al = o.alpha := ⟨_, rfl⟩
  obtain ⟨nu, hnu⟩ : ∃ nu, nu = o.num := ⟨_, rfl⟩
  rw [← hal, ← hnu] at hq
  rw [← hal, ← hnu]
  have HNUM := Aside0.mk hnum
  have HLET := Aside0.mk hlet
  have HT := Aside0.mk hT
  clear hnum hlet hnb hlb hal hnu hT
  rcases (show n ≤ 2 ∨ 2 < n by omega) with h2 | h2
  · have q1 : decide ((n : Int) > 2) = false := decide_eq_false (by omega)
    have q2 : decide (n ≤ 2) = true := decide_eq_true h2
    rw [q2] at hq
    have HQ := Aside0.mk hq
    clear hq q2
    cases lb <;> cases al
    · go_enter Tryd.func21, Tryd.ntmps21
      go_wp2_with (first | (go_at_call 27; refine (HLET.out _ HT.out).mono ?_; rintro e w1 ⟨rfl, hd⟩; have HD := Aside0.mk hd; have HT1 := Aside0.mk (HT.out.below (hd.toBelow (Nat.le_refl _) (by simp))); clear hd) | (go_at_call 26; refine (HNUM.out _ HT1.out).mono ?_; rintro e w2 ⟨rfl, hd⟩; have HD2 := Aside0.mk hd; clear hd))
      all_goals go_ret
      all_goals exact ⟨by rw [HQ.out]; simp_all, HD.out.trans HD2.out⟩
    · go_enter Tryd.func21, Tryd.ntmps21
      go_wp2_with (first | (go_at_call 27; refine (HLET.out _ HT.out).mono ?_; rintro e w1 ⟨rfl, hd⟩; have HD := Aside0.mk hd; have HT1 := Aside0.mk (HT.out.below (hd.toBelow (Nat.le_refl _) (by simp))); clear hd) | (go_at_call 26; refine (HNUM.out _ HT1.out).mono ?_; rintro e w2 ⟨rfl, hd⟩; have HD2 := Aside0.mk hd; clear hd))
      all_goals go_ret
      all_goals exact ⟨by rw [HQ.out]; simp_all, HD.out.trans HD2.out⟩
    · go_enter Tryd.func21, Tryd.ntmps21
      go_wp2_with (first | (go_at_call 27; refine (HLET.out _ HT.out).mono ?_; rintro e w1 ⟨rfl, hd⟩; have HD := Aside0.mk hd; have HT1 := Aside0.mk (HT.out.below (hd.toBelow (Nat.le_refl _) (by simp))); clear hd) | (go_at_call 26; refine (HNUM.out _ HT1.out).mono ?_; rintro e w2 ⟨rfl, hd⟩; have HD2 := Aside0.mk hd; clear hd))
      all_goals go_ret
      all_goals exact ⟨by rw [HQ.out]; simp, HD.out⟩
    · go_enter Tryd.func21, Tryd.ntmps21
      go_wp2_with (first | (go_at_call 27; refine (HLET.out _ HT.out).mono ?_; rintro e w1 ⟨rfl, hd⟩; have HD := Aside0.mk hd; have HT1 := Aside0.mk (HT.out.below (hd.toBelow (Nat.le_refl _) (by simp))); clear hd) | (go_at_call 26; refine (HNUM.out _ HT1.out).mono ?_; rintro e w2 ⟨rfl, hd⟩; have HD2 := Aside0.mk hd; clear hd))
      all_goals go_ret
      all_goals exact ⟨by rw [HQ.out]; simp_all, HD.out.trans HD2.out⟩
  · have q1 : decide ((n : Int) > 2) = true := decide_eq_true (by omega)
    have q2 : decide (n ≤ 2) = false := decide_eq_false (by omega)
    rw [q2] at hq
    have HQ := Aside0.mk hq
    clear hq q2
    go_enter Tryd.func21, Tryd.ntmps21
    go_wp2_with fail
    go_ret
    exact ⟨by rw [HQ.out]; simp, Chg.refl _ _⟩
end Go.Proofs.YthecfligfhpccaaDoor.Pa
namespace Go.Proofs.YthecfligfhpccaaDoor.Pa
open Go.RowKit Go.Lib
set_option maxRecDepth 100000 in
theorem err_letter : isLetterU 65533 = false := by kernel_rfl
set_option maxRecDepth 100000 in
theorem err_number : isNumberU 65533 = false := by kernel_rfl
theorem caps : ∀ b : Fin 26, isLetterU (((65 + b.val : Nat)) : Int) = true ∧ isNumberU (((65 + b.val : Nat)) : Int) = false ∧ isLetterU (((97 + b.val : Nat)) : Int) = true := by decide
theorem stk_err (o : Opt) (n : Nat) : stk o (65533, n) = false := by
  unfold stk
  show (decide (n ≤ 2) && ((isLetterU 65533 && !o.alpha) || (isNumberU 65533 && !o.num))) = false
  rw [err_letter, err_number]
  simp
theorem stk_low (o : Opt) (b : Nat) (h1 : 65 ≤ b) (h2 : b ≤ 90) (h : stk o (b, 1) = true) : stk o (b + 32, 1) = true := by
  obtain ⟨q1, q2, q3⟩ := caps ⟨b - 65, by omega⟩
  have e1 : ((65 + (b - 65) : Nat) : Int) = (b : Int) := by omega
  have e2 : ((97 + (b - 65) : Nat) : Int) = ((b + 32 : Nat) : Int) := by omega
  dsimp only at q1 q2 q3
  rw [e1] at q1 q2
  rw [e2] at q3
  unfold stk at h ⊢
  dsimp only at h ⊢
  rw [q1, q2] at h
  rw [q3]
  simp at h ⊢
  exact .inl h
theorem low_low (s : ByteArray) : low (low s) = low s := by
  unfold low
  congr 1
  simp only [Array.map_map]
  apply Array.map_congr_left
  intro c _
  show lowB (lowB c) = lowB c
  have h1 := lowB_toNat c
  have h2 := lowB_toNat (lowB c)
  rw [h1] at h2
  apply UInt8.toNat_inj.1
  have h3 : lowI (lowI (c.toNat : Int)) = lowI (c.toNat : Int) := by
    unfold lowI
    by_cases h : 65 ≤ (c.toNat : Int) ∧ (c.toNat : Int) ≤ 90
    · rw [if_pos h, if_neg (by omega)]
    · rw [if_neg h, if_neg h]
  omega
theorem ext_all (s : ByteArray) : s.extract 0 s.size = s := by
  cases s with
  | mk a =>
    show ByteArray.extract ⟨a⟩ 0 a.size = _
    have : (ByteArray.extract ⟨a⟩ 0 a.size).data = a := by rw [ByteArray.data_extract]; simp
    cases h : ByteArray.extract ⟨a⟩ 0 a.size with
    | mk b => rw [h] at this; simpa using this
theorem ext_get (s : ByteArray) (i j k : Nat) (h : i + k < j) (hj : j ≤ s.size) : (s.extract i j).get! k = s.get! (i + k) := by
  show (s.extract i j).data[k]! = s.data[i + k]!
  rw [ByteArray.data_extract]
  have hs : s.size = s.data.size := rfl
  have h3 : k < (s.data.extract i j).size := by rw [Array.size_extract]; omega
  rw [getElem!_pos _ k h3, getElem!_pos _ (i + k) (by omega), Array.getElem_extract]
theorem low_get (s : ByteArray) (k : Nat) (h : k < s.size) : (((low s).get! k).toNat : Int) = lowI ((s.get! k).toNat : Int) := byt_low s k h
theorem ext_size (s : ByteArray) (i j : Nat) (h : i ≤ j) (hj : j ≤ s.size) : (s.extract i j).size = j - i := by rw [ByteArray.size_extract]; omega
/-- What a sign is hangs on its own bytes alone. -/
theorem decodeN_own (n0 m b0 b1 b2 b3 c1 c2 c3 r k : Nat) (h : decodeN n0 b0 b1 b2 b3 = (r, k)) (hm : k ≤ m) (hm1 : k = 1 → r = 65533 → m = 1) (h1 : 1 < k → c1 = b1) (h2 : 2 < k → c2 = b2) (h3 : 3 < k → c3 = b3) (hb : 128 ≤ b0 → 1 ≤ k) : decodeN m b0 c1 c2 c3 = (r, k) := by
  unfold decodeN at h
  have herr : (65533, 1) = (r, k) → 128 ≤ b0 → decodeN m b0 c1 c2 c3 = (r, k) := fun e h0 => by
    have e1 : r = 65533 := (congrArg Prod.fst e).symm
    have e2 : k = 1 := (congrArg Prod.snd e).symm
    have hm := hm1 e2 e1
    subst hm e1 e2
    unfold decodeN
    rw [if_neg (by omega), if_neg (fun g => absurd g.2.1 (by omega)), if_neg (fun g => absurd g.2.1.1 (by omega)), if_neg (fun g => absurd g.2.1.1 (by omega))]
  by_cases a0 : b0 < 128
  · rw [if_pos a0] at h
    unfold decodeN
    rw [if_pos a0]
    exact h
  · rw [if_neg a0] at h
    by_cases a1 : b0 / 32 = 6 ∧ (1 < n0 ∧ b1 / 64 = 2)
    · rw [if_pos a1] at h
      by_cases v : b0 % 32 * 64 + b1 % 64 ≥ 128
      · rw [if_pos v] at h
        have e2 : k = 2 := (congrArg Prod.snd h).symm
        have q1 := h1 (by omega)
        rw [e2] at hm
        unfold decodeN
        rw [if_neg a0, q1, if_pos ⟨a1.1, by omega, a1.2.2⟩, if_pos v]
        exact h
      · rw [if_neg v] at h
        exact herr h (by omega)
    · rw [if_neg a1] at h
      by_cases a2 : b0 / 16 = 14 ∧ (1 < n0 ∧ b1 / 64 = 2) ∧ (2 < n0 ∧ b2 / 64 = 2)
      · rw [if_pos a2] at h
        split at h
        · rename_i v
          have e2 : k = 3 := (congrArg Prod.snd h).symm
          have q1 := h1 (by omega)
          have q2 := h2 (by omega)
          rw [e2] at hm
          have a20 := a2.1
          unfold decodeN
          rw [if_neg a0, q1, q2, if_neg (fun g => absurd g.1 (by omega)), if_pos ⟨a2.1, ⟨by omega, a2.2.1.2⟩, by omega, a2.2.2.2⟩, if_pos v]
          exact h
        · exact herr h (by omega)
      · rw [if_neg a2] at h
        by_cases a3 : b0 / 8 = 30 ∧ (1 < n0 ∧ b1 / 64 = 2) ∧ (2 < n0 ∧ b2 / 64 = 2) ∧ (3 < n0 ∧ b3 / 64 = 2)
        · rw [if_pos a3] at h
          split at h
          · rename_i v
            have e2 : k = 4 := (congrArg Prod.snd h).symm
            have q1 := h1 (by omega)
            have q2 := h2 (by omega)
            have q3 := h3 (by omega)
            rw [e2] at hm
            have a30 := a3.1
            unfold decodeN
            rw [if_neg a0, q1, q2, q3, if_neg (fun g => absurd g.1 (by omega)), if_neg (fun g => absurd g.1 (by omega)), if_pos ⟨a3.1, ⟨by omega, a3.2.1.2⟩, ⟨by omega, a3.2.2.1.2⟩, by omega, a3.2.2.2.2⟩, if_pos v]
            exact h
          · exact herr h (by omega)
        · rw [if_neg a3] at h
          exact herr h (by omega)
/-- The sign at p alone is the sign. -/
theorem sg_alone (s : ByteArray) (p : Nat) (h : p < s.size) : sg (s.extract p (p + (sg s p).2)) 0 = sg s p := by
  have hp := sg_pos s p h
  have hl := sg_le s p h
  obtain ⟨x, hx⟩ : ∃ x, x = sg s p := ⟨_, rfl⟩
  rw [← hx] at hp hl ⊢
  obtain ⟨r, n⟩ := x
  dsimp only at hp hl ⊢
  have hz := ext_size s p (p + n) (by omega) hl
  have hn : p + n - p = n := by omega
  rw [sg_dec _ 0 (by omega), decode_at, hz, hn]
  rw [sg_dec s p h, decode_at] at hx
  have g0 : (s.extract p (p + n)).get! 0 = s.get! p := ext_get s p (p + n) 0 (by omega) hl
  rw [g0]
  exact decodeN_own _ _ _ _ _ _ _ _ _ _ _ hx.symm (by omega) (fun e _ => by omega) (fun g => by rw [ext_get s p (p + n) (0 + 1) (by omega) hl]) (fun g => by rw [ext_get s p (p + n) (0 + 2) (by omega) hl]) (fun g => by rw [ext_get s p (p + n) (0 + 3) (by omega) hl]) (fun _ => hp)
/-- A sign of a run that is lowered. -/
theorem sg_low (s : ByteArray) (o : Opt) (i j p : Nat) (hi : i ≤ p) (hp : p < j) (hj : j ≤ s.size) (hk : stk o (sg s p) = true) (hn : p + (sg s p).2 ≤ j) : stk o (sg (low (s.extract i j)) (p - i)) = true ∧ (sg (low (s.extract i j)) (p - i)).2 = (sg s p).2 := by
  have h1 := sg_pos s p (by omega)
  obtain ⟨x, hx⟩ : ∃ x, x = sg s p := ⟨_, rfl⟩
  rw [← hx] at hk hn h1 ⊢
  obtain ⟨r, n⟩ := x
  dsimp only at hn h1 ⊢
  have hn2 : n ≤ 2 := by
    unfold stk at hk
    simp at hk
    exact hk.1
  have hz : (low (s.extract i j)).size = j - i := by rw [low_size, ext_size s i j (by omega) hj]
  have hzE : (s.extract i j).size = j - i := ext_size s i j (by omega) hj
  rw [sg_dec s p (by omega), decode_at] at hx
  rw [sg_dec _ (p - i) (by omega), decode_at, hz]
  have g0 := low_get (s.extract i j) (p - i) (by omega)
  rw [ext_get s i j (p - i) (by omega) hj, show i + (p - i) = p by omega] at g0
  by_cases hb : (s.get! p).toNat < 128
  · have hx1 : (r, n) = ((s.get! p).toNat, 1) := by rw [hx]; unfold decodeN; rw [if_pos hb]
    have e1 : r = (s.get! p).toNat := congrArg Prod.fst hx1
    have e2 : n = 1 := congrArg Prod.snd hx1
    subst e2
    by_cases hc : 65 ≤ (s.get! p).toNat ∧ (s.get! p).toNat ≤ 90
    · have q : ((low (s.extract i j)).get! (p - i)).toNat = r + 32 := by
        unfold lowI at g0
        rw [if_pos (by omega)] at g0
        omega
      rw [q]
      unfold decodeN
      rw [if_pos (by omega)]
      exact ⟨stk_low o r (by omega) (by omega) hk, rfl⟩
    · have q : ((low (s.extract i j)).get! (p - i)).toNat = r := by
        unfold lowI at g0
        rw [if_neg (by omega)] at g0
        omega
      rw [q]
      unfold decodeN
      rw [if_pos (by omega)]
      exact ⟨hk, rfl⟩
  · have q : ((low (s.extract i j)).get! (p - i)).toNat = (s.get! p).toNat := by
      unfold lowI at g0
      rw [if_neg (by omega)] at g0
      omega
    have hr : ¬ r = 65533 := fun e => by
      rw [e, stk_err] at hk
      cases hk
    have hn3 : n = 2 := by
      have := hx
      unfold decodeN at this
      rw [if_neg hb] at this
      rcases (show n = 1 ∨ n = 2 by omega) with e | e
      · exfalso
        revert this
        repeat' split
        all_goals intro this
        all_goals have t1 := congrArg Prod.fst this
        all_goals have t2 := congrArg Prod.snd this
        all_goals dsimp only at t1 t2
        all_goals first | exact hr t1 | omega
      · exact e
    subst hn3
    have hb1 : 128 ≤ (s.get! (p + 1)).toNat := by
      have := hx
      unfold decodeN at this
      rw [if_neg hb] at this
      by_cases a1 : (s.get! p).toNat / 32 = 6 ∧ (1 < s.size - p ∧ (s.get! (p + 1)).toNat / 64 = 2)
      · omega
      · exfalso
        rw [if_neg a1] at this
        revert this
        repeat' split
        all_goals intro this
        all_goals have t2 := congrArg Prod.snd this
        all_goals dsimp only at t2
        all_goals omega
    have g1 := low_get (s.extract i j) (p - i + 1) (by omega)
    rw [ext_get s i j (p - i + 1) (by omega) hj, show i + (p - i + 1) = p + 1 by omega] at g1
    have q1 : ((low (s.extract i j)).get! (p - i + 1)).toNat = (s.get! (p + 1)).toNat := by
      unfold lowI at g1
      rw [if_neg (by omega)] at g1
      omega
    rw [q, q1, decodeN_own _ (j - i - (p - i)) _ _ _ _ _ _ _ _ _ hx.symm (by omega) (fun e => by omega) (fun _ => rfl) (fun e => by omega) (fun e => by omega) (fun _ => by omega)]
    exact ⟨hk, rfl⟩
/-- The signs from a to b are put together. -/
inductive Run (s : ByteArray) (o : Opt) : Nat → Nat → Prop
  | nil (a : Nat) : Run s o a a
  | cons (a b : Nat) : a < s.size → stk o (sg s a) = true → Run s o (a + (sg s a).2) b → Run s o a b
theorem Run.snoc {s : ByteArray} {o : Opt} {a b : Nat} (h : Run s o a b) (hb : b < s.size) (hk : stk o (sg s b) = true) : Run s o a (b + (sg s b).2) := by
  induction h with
  | nil a => exact .cons a _ hb hk (.nil _)
  | cons a b h1 h2 _ ih => exact .cons a _ h1 h2 (ih hb hk)
theorem Run.le {s : ByteArray} {o : Opt} {a b : Nat} (h : Run s o a b) : a ≤ b := by
  induction h with
  | nil a => exact Nat.le_refl _
  | cons a b h1 h2 _ ih => omega
/-- A run, lowered, is one part. -/
theorem run_one {s : ByteArray} {o : Opt} (ho : o.each = false) {i j : Nat} (hij : i < j) (hj : j ≤ s.size) : ∀ {a b : Nat}, Run s o a b → i ≤ a → b = j → ∀ k, j - a < k → go (low (s.extract i j)) o k (a - i) 0 true = [low (s.extract i j)] := by
  have hz : (low (s.extract i j)).size = j - i := by rw [low_size, ext_size s i j (by omega) hj]
  intro a b h
  induction h with
  | nil a =>
    intro ha hb k hk
    subst hb
    obtain ⟨k, rfl⟩ : ∃ m, k = m + 1 := ⟨k - 1, by omega⟩
    unfold go
    rw [if_neg (by omega), ho, if_pos (by rfl), if_pos (by omega)]
    have : (low (s.extract i a)).extract 0 (a - i) = low (s.extract i a) := by rw [← hz]; exact ext_all _
    rw [this, low_low]
  | cons a b h1 h2 h3 ih =>
    intro ha hb k hk
    have h4 := h3.le
    have h5 := sg_pos s a h1
    obtain ⟨q1, q2⟩ := sg_low s o i j a ha (by omega) hj h2 (by omega)
    obtain ⟨k, rfl⟩ : ∃ m, k = m + 1 := ⟨k - 1, by omega⟩
    unfold go
    rw [if_pos (by omega), if_pos q1, ho, if_neg (by simp), if_pos rfl, q2]
    have := ih (by omega) hb k (by omega)
    rwa [show a + (sg s a).2 - i = a - i + (sg s a).2 by omega] at this
/-- Each part, split by itself, is one part. -/
theorem go_one {s : ByteArray} {o : Opt} (ho : o.each = false) : ∀ (k cur st : Nat) (run : Bool), cur ≤ s.size → (run = true → Run s o st cur ∧ (cur = 0 ∨ st < cur)) → ∀ p ∈ go s o k cur st run, parts p o = [p] := by
  have hrun : ∀ (st cur : Nat), cur ≤ s.size → Run s o st cur → st < cur → parts (low (s.extract st cur)) o = [low (s.extract st cur)] := fun st cur hc h hlt => by
    have hz : (low (s.extract st cur)).size = cur - st := by rw [low_size, ext_size s st cur (by omega) hc]
    have := run_one ho hlt hc h (Nat.le_refl _) rfl ((low (s.extract st cur)).size + 1) (by omega)
    rw [Nat.sub_self] at this
    exact this
  have hone : ∀ cur, cur < s.size → stk o (sg s cur) = false → parts (s.extract cur (cur + (sg s cur).2)) o = [s.extract cur (cur + (sg s cur).2)] := fun cur hc hk => by
    have h1 := sg_pos s cur hc
    have h2 := sg_le s cur hc
    have h3 := sg_alone s cur hc
    have hz := ext_size s cur (cur + (sg s cur).2) (by omega) h2
    obtain ⟨p, hp⟩ : ∃ p, p = s.extract cur (cur + (sg s cur).2) := ⟨_, rfl⟩
    rw [← hp] at h3 hz ⊢
    have hzn : p.size = (sg s cur).2 := by omega
    unfold parts go
    rw [if_pos (by omega), h3, hk, if_neg (by simp), if_neg (by simp), Nat.zero_add]
    have he : p.extract 0 (sg s cur).2 = p := by rw [← hzn]; exact ext_all p
    rw [he]
    congr 1
    obtain ⟨m, hm⟩ : ∃ m, p.size = m + 1 := ⟨p.size - 1, by omega⟩
    rw [hm]
    unfold go
    rw [if_neg (by omega)]
    rfl
  intro k
  induction k with
  | zero => intro cur st run _ _ p hp; simp [go] at hp
  | succ k ih =>
    intro cur st run hc hr p hp
    unfold go at hp
    by_cases hlt : cur < s.size
    · have h1 := sg_pos s cur hlt
      have h2 := sg_le s cur hlt
      rw [if_pos hlt] at hp
      by_cases hk : stk o (sg s cur) = true
      · rw [if_pos hk, ho, if_neg (by simp)] at hp
        refine ih _ _ true h2 (fun _ => ?_) p hp
        cases run with
        | true =>
          obtain ⟨q1, q2⟩ := hr rfl
          rw [if_pos rfl]
          exact ⟨q1.snoc hlt hk, by have := q1.le; omega⟩
        | false =>
          rw [if_neg (by simp)]
          exact ⟨.cons cur _ hlt hk (.nil _), by omega⟩
      · rw [if_neg hk] at hp
        have hk' : stk o (sg s cur) = false := by simpa using hk
        split at hp
        · rename_i hcond
          simp only [List.mem_cons] at hp
          have hrt : run = true := by simp at hcond; exact hcond.1
          have hc0 : cur ≠ 0 := by simp at hcond; exact hcond.2.1
          obtain ⟨q1, q2⟩ := hr hrt
          rcases hp with rfl | rfl | hp
          · exact hrun st cur hc q1 (by omega)
          · exact hone cur hlt hk'
          · exact ih _ _ false h2 (fun h => by cases h) p hp
        · simp only [List.mem_cons] at hp
          rcases hp with rfl | hp
          · exact hone cur hlt hk'
          · exact ih _ _ false h2 (fun h => by cases h) p hp
    · rw [if_neg hlt] at hp
      split at hp
      · rename_i hcond
        split at hp
        · rename_i hc0
          have hrt : run = true := by simp at hcond; exact hcond.1
          obtain ⟨q1, q2⟩ := hr hrt
          rw [List.mem_singleton] at hp
          rw [hp]
          exact hrun st cur hc q1 (by omega)
        · cases hp
      · cases hp
end Go.Proofs.YthecfligfhpccaaDoor.Pa
namespace Go.Proofs.YthecfligfhpccaaDoor.Pa
open Go.RowKit Go.Lib
/-- The reference: run is what is put together so far. -/
def sp (s : ByteArray) (o : Opt) : Nat → Nat → ByteArray → List ByteArray
  | 0, _, _ => []
  | k + 1, cur, run =>
    if cur < s.size then
      (if stk o (sg s cur) then
        (if o.each then low (run ++ s.extract cur (cur + (sg s cur).2)) :: sp s o k (cur + (sg s cur).2) ⟨#[]⟩
         else sp s o k (cur + (sg s cur).2) (run ++ s.extract cur (cur + (sg s cur).2)))
       else (if run.size ≠ 0 then low run :: s.extract cur (cur + (sg s cur).2) :: sp s o k (cur + (sg s cur).2) ⟨#[]⟩
         else s.extract cur (cur + (sg s cur).2) :: sp s o k (cur + (sg s cur).2) ⟨#[]⟩))
    else (if run.size ≠ 0 then [low run] else [])
theorem ba_ext {a b : ByteArray} (h : a.data.toList = b.data.toList) : a = b := by
  cases a with | mk a => cases b with | mk b => simpa using h
theorem ext_app (s : ByteArray) (i j k : Nat) (h1 : i ≤ j) (h2 : j ≤ k) : s.extract i j ++ s.extract j k = s.extract i k := by
  apply ba_ext
  rw [ByteArray.data_append, Array.toList_append, ByteArray.data_extract, ByteArray.data_extract, ByteArray.data_extract, Array.toList_extract, Array.toList_extract, Array.toList_extract]
  simp only [List.extract_eq_take_drop]
  have : s.data.toList.drop j = (s.data.toList.drop i).drop (j - i) := by rw [List.drop_drop]; congr 1; omega
  rw [this, show k - i = (j - i) + (k - j) by omega, List.take_add]
theorem ext_ext (s : ByteArray) (i n : Nat) (h : i + n ≤ s.size) : (s.extract i s.size).extract 0 n = s.extract i (i + n) := by
  apply ba_ext
  have hs : s.size = s.data.toList.length := by rw [Array.length_toList]; rfl
  rw [ByteArray.data_extract, ByteArray.data_extract, ByteArray.data_extract, Array.toList_extract, Array.toList_extract, Array.toList_extract]
  simp only [List.extract_eq_take_drop, List.drop_zero, Nat.sub_zero]
  rw [List.take_take]
  congr 1
  omega
theorem ext_rest (s : ByteArray) (i n m : Nat) (h : i + n ≤ s.size) (hm : m = s.size - i) : (s.extract i s.size).extract n m = s.extract (i + n) s.size := by
  apply ba_ext
  have hs : s.size = s.data.toList.length := by rw [Array.length_toList]; rfl
  rw [ByteArray.data_extract, ByteArray.data_extract, ByteArray.data_extract, Array.toList_extract, Array.toList_extract, Array.toList_extract]
  simp only [List.extract_eq_take_drop]
  rw [List.drop_take, List.take_take, List.drop_drop]
  congr 1
  omega
theorem nil_size : (⟨#[]⟩ : ByteArray).size = 0 := rfl
theorem empty_of {x : ByteArray} (h : x.size = 0) : x = ⟨#[]⟩ := by
  cases x with | mk a =>
  congr 1
  exact Array.eq_empty_of_size_eq_zero h
theorem app_nil (x : ByteArray) : (⟨#[]⟩ : ByteArray) ++ x = x := by
  apply ba_ext
  rw [ByteArray.data_append]
  simp
theorem sp_go (s : ByteArray) (o : Opt) : ∀ (k cur st : Nat) (run : Bool), cur ≤ s.size → st ≤ cur → (run = true → cur = 0 ∨ st < cur) → sp s o k cur (if run && !o.each then s.extract st cur else ⟨#[]⟩) = go s o k cur st run := by
  intro k
  induction k with
  | zero => intro cur st run _ _ _; rfl
  | succ k ih =>
    intro cur st run h1 h2 h3
    unfold sp go
    by_cases hlt : cur < s.size
    · have d1 := sg_pos s cur hlt
      have d2 := sg_le s cur hlt
      rw [if_pos hlt, if_pos hlt]
      obtain ⟨n, hn⟩ : ∃ n, n = (sg s cur).2 := ⟨_, rfl⟩
      rw [← hn] at d1 d2 ⊢
      by_cases hk : stk o (sg s cur) = true
      · rw [if_pos hk, if_pos hk]
        cases he : o.each with
        | true =>
          simp only [Bool.not_true, Bool.and_false, Bool.false_eq_true, if_false, if_true]
          rw [app_nil]
          congr 1
          have := ih (cur + n) (if run then st else cur) true d2 (by split <;> omega) (fun _ => by split <;> omega)
          rw [he] at this
          simpa using this
        | false =>
          simp only [Bool.not_false, Bool.and_true, Bool.false_eq_true, if_false]
          have := ih (cur + n) (if run then st else cur) true d2 (by split <;> omega) (fun _ => by split <;> omega)
          rw [he] at this
          simp only [Bool.not_false, Bool.and_true, if_true] at this
          rw [← this]
          congr 1
          cases run with
          | true => simp only [if_true]; exact ext_app s st cur (cur + n) h2 (by omega)
          | false => simp only [Bool.false_eq_true, if_false]; exact app_nil _
      · rw [if_neg hk, if_neg hk]
        have i1 := ih (cur + n) st false d2 (by omega) (fun h => by cases h)
        simp only [Bool.false_and, Bool.false_eq_true, if_false] at i1
        rw [i1]
        by_cases hq : (run && !o.each) = true
        · rw [if_pos hq]
          simp only [Bool.and_eq_true, Bool.not_eq_true'] at hq
          have h4 := h3 hq.1
          by_cases hc : cur = 0
          · have hz : (s.extract st cur).size = 0 := by rw [ByteArray.size_extract]; omega
            rw [if_neg (by omega), if_neg (by simp [hc])]
          · have hz : (s.extract st cur).size ≠ 0 := by rw [ByteArray.size_extract]; omega
            rw [if_pos hz, if_pos (by rw [hq.1, hq.2]; simp [hc])]
        · rw [if_neg hq, nil_size, if_neg (by simp), if_neg (by
            intro g
            simp only [Bool.and_eq_true, decide_eq_true_eq] at g
            exact hq (by rw [g.1, g.2.2]; rfl))]
    · rw [if_neg hlt, if_neg hlt]
      by_cases hq : (run && !o.each) = true
      · rw [if_pos hq, if_pos hq]
        simp only [Bool.and_eq_true, Bool.not_eq_true'] at hq
        have h4 := h3 hq.1
        by_cases hc : cur = 0
        · have hz : (s.extract st cur).size = 0 := by rw [ByteArray.size_extract]; omega
          rw [if_neg (by omega), if_neg (by simp [hc])]
        · have hz : (s.extract st cur).size ≠ 0 := by rw [ByteArray.size_extract]; omega
          rw [if_pos hz, if_pos hc]
      · rw [if_neg hq, if_neg hq, nil_size, if_neg (by simp)]
theorem sp_parts (s : ByteArray) (o : Opt) : sp s o (s.size + 1) 0 ⟨#[]⟩ = parts s o := by
  have := sp_go s o (s.size + 1) 0 0 true (Nat.zero_le _) (Nat.le_refl _) (fun _ => .inl rfl)
  have e : (if (true && !o.each) = true then s.extract 0 0 else ⟨#[]⟩) = (⟨#[]⟩ : ByteArray) := by
    split
    · exact empty_of (by rw [ByteArray.size_extract]; omega)
    · rfl
  rw [e] at this
  exact this
end Go.Proofs.YthecfligfhpccaaDoor.Pa
namespace Go.Proofs.YthecfligfhpccaaDoor.Pa
open Go.RowKit Go.Lib Go.Proofs.YthecfligfhpccaaDoorW.PrintWords Go.Proofs.YthecfligfhpccaaDoor.Gn Go.Proofs.YthecfligfhpccaaDoor.X
/-- 'append(out, s)' where out is a row of texts of its own. -/
theorem wpList_addS {W : World} {ops : Array Oper} {rest : List Oper} {o : Oper} {a : Act} {Q : Exit → Act → World → Prop} (hgd : o.guard = none) (s x : Operand)
    (ho : o.op = .call { callee := .builtin .append, args := #[s, x], argTypes := #[22, 22] }) (A : Option Addr) (c : Nat) (os : List ByteArray) (m : Nat) (hm : os.length = m) (hs : a.eval s = .slice A m c) (hv : ORow W 9 (.slice A m c) (os.map Value.string))
    (p : ByteArray) (hx : a.eval x = .slice (some ⟨W.heap.size, 0, none⟩) 1 1) (hl : m ≤ 1000000)
    (h : ∀ A' c' w', ORow w' 9 (.slice A' (m + 1) c') ((os ++ [p]).map Value.string) → Chg (Value.slice A m c).ownBlock.toList W w' → (∀ g, (Value.slice A' (m + 1) c').ownBlock = some g → (Value.slice A m c).ownBlock = some g ∨ W.heap.size ≤ g) → wpList Tryd.prog ops Q rest (a.put o.dst (.slice A' (m + 1) c')) w') :
    wpList Tryd.prog ops Q (o :: rest) a (W.alloc (.cells #[.string p] 9)) := by
  have hl2 : (os.map Value.string).length = m := by rw [List.length_map]; exact hm
  refine wpList_append1 hgd s x 22 ho 9 (.string ⟨#[]⟩) 16 Tryd.underlying22 infoStr rfl (.slice A m c) (os.map Value.string) hs (hv.chg ((Chg.refl [] W).alloc _) (by simp)) W.heap.size (.string p) hx (by simp) rfl (by omega) (by unfold maxLen; omega) ?_
  intro v' w' hr hc hown
  have hr2 : ORow w' 9 v' ((os ++ [p]).map Value.string) := by rw [List.map_append]; exact hr
  obtain ⟨A', c', e, _⟩ := hr2.slice
  have e2 : v' = .slice A' (m + 1) c' := by rw [e]; simp [hm]
  subst e2
  refine h A' c' w' hr2 ⟨hc.os, hc.tape, hc.output, by have := hc.size; rw [size_alloc] at this; omega, fun k hk hs => (hc.block k (by rw [size_alloc]; omega) hs).trans (Below.heap_alloc W _ k hk)⟩ (fun g hg => ?_)
  rcases hown with q | q
  · exact .inl (by rw [← q]; exact hg)
  · rw [hg] at q
    have : g = _ := (by injection q)
    rw [this, size_alloc]
    exact .inr (by omega)
theorem decs_calls (w : World) (s : ByteArray) (p : Nat) (hT : Tabs w) : Calls Tryd.prog 20 #[.string (s.extract p s.size)] w fun e w' => e = .returned (.tuple #[.int .i32 ((sg s p).1 : Int), .int .i64 ((sg s p).2 : Int)]) ∧ Chg [] w w' :=
  (Tryd.utf8_DecodeRuneInString (s.extract p s.size) w hT.u8).mono fun e w' ⟨h1, h2⟩ => ⟨h1, Chg.below h2⟩
set_option maxHeartbeats 4000000 in
set_option maxRecDepth 100000 in
theorem specParts_calls (w : World) (s : ByteArray) (o : Opt) (hl : s.size ≤ 1000) (hT : Tabs w) :
    Calls Tryd.prog 12 #[.string s, .bool o.each, .bool o.alpha, .bool o.num] w (SrPost (sp s o (s.size + 1) 0 ⟨#[]⟩) w) := by
  have HT := Aside0.mk hT
  have HSTK : Aside0 (∀ (W : World) (r n : Nat), r ≤ 1114111 → n ≤ 100 → Tabs W → Calls Tryd.prog 21 #[.int .i32 (r : Int), .int .i64 (n : Int), .bool o.alpha, .bool o.num] W fun e w' => e = .returned (.bool (stk o (r, n))) ∧ Chg [] W w') := ⟨fun W r n h1 h2 h3 => sticks_calls W r n o h1 h2 h3⟩
  have HS0 : Aside0 (s = s.extract 0 s.size) := ⟨(ext_all s).symm⟩
  obtain ⟨PS, hPS⟩ : ∃ PS, PS = sp s o (s.size + 1) 0 ⟨#[]⟩ := ⟨_, rfl⟩
  have HPS := Aside0.mk hPS.symm
  rw [← hPS]
  obtain ⟨e1, h1⟩ : ∃ e1, e1 = o.each := ⟨_, rfl⟩
  obtain ⟨e2, h2⟩ : ∃ e2, e2 = o.alpha := ⟨_, rfl⟩
  obtain ⟨e3, h3⟩ : ∃ e3, e3 = o.num := ⟨_, rfl⟩
  rw [← h2, ← h3] at HSTK
  rw [← h1, ← h2, ← h3]
  have H1 := Aside0.mk h1
  clear hT h1 h2 h3 hPS
  go_enter Tryd.func12, Tryd.ntmps12
  go_wp2_with fail
  go_loopw [0, 9, 10] (fun v0 v9 v10 wr => ∃ (cur k : Nat) (t run : ByteArray) (os : List ByteArray), v0 = .string t ∧ v10 = .string run ∧ Aside0 (t = s.extract cur s.size) ∧ Aside0 (cur ≤ s.size ∧ s.size < cur + k ∧ os.length ≤ 2 * cur ∧ run.size ≤ cur) ∧ Aside0 (ORow wr 9 v9 (os.map Value.string)) ∧ Aside0 (∀ g, v9.ownBlock = some g → w.heap.size ≤ g) ∧ Aside0 (Chg [] w wr) ∧ Aside0 (os ++ sp s o k cur run = PS)) (fun v0 _ _ _ => match v0 with | .string t => t.size | _ => 0)
  case atStart => exact ⟨0, s.size + 1, s, ⟨#[]⟩, [], rfl, rfl, HS0, ⟨by simp; rfl⟩, ⟨ORow.nil _ _⟩, ⟨fun g hg => by cases hg⟩, ⟨Chg.refl _ _⟩, ⟨HPS.out⟩⟩
  case round =>
    clear HS0 HPS
    obtain ⟨cur, k, t, run, os, rfl, rfl, HTT, HI, HV, HG, HC, HP⟩ := hrel
    obtain ⟨hi1, hi2, hi3, hi4⟩ := HI.out
    have htz : t.size = s.size - cur := by rw [HTT.out, ByteArray.size_extract]; omega
    have HTZ := Aside0.mk htz
    clear htz
    by_cases hlt : cur < s.size
    · have k1 : decide ((t.size : Int) > 0) = true := decide_eq_true (by have := HTZ.out; omega)
      have k2 : decide (0 < t.size) = true := decide_eq_true (by have := HTZ.out; omega)
      obtain ⟨k, rfl⟩ : ∃ k', k = k' + 1 := ⟨k - 1, by omega⟩
      have hd1 := sg_pos s cur hlt
      have hd2 := sg_le s cur hlt
      have hd3 := sg_rune s cur hlt
      have hd4 : (sg s cur).2 ≤ 4 := by
        rw [sg_dec s cur hlt, decode_at]
        unfold decodeN
        repeat' split
        all_goals simp
      have HTW := Aside0.mk (HT.out.below (HC.out.toBelow (Nat.le_refl _) (by simp)))
      have hdec := decs_calls wr s cur HTW.out
      rw [← HTT.out] at hdec
      have hsp : sp s o (k + 1) cur run = (if stk o (sg s cur) then
        (if o.each then low (run ++ s.extract cur (cur + (sg s cur).2)) :: sp s o k (cur + (sg s cur).2) ⟨#[]⟩
         else sp s o k (cur + (sg s cur).2) (run ++ s.extract cur (cur + (sg s cur).2)))
       else (if run.size ≠ 0 then low run :: s.extract cur (cur + (sg s cur).2) :: sp s o k (cur + (sg s cur).2) ⟨#[]⟩
         else s.extract cur (cur + (sg s cur).2) :: sp s o k (cur + (sg s cur).2) ⟨#[]⟩)) := by
        show (if cur < s.size then _ else _) = _
        rw [if_pos hlt]
      have HPP := HP.out
      rw [hsp, ← H1.out] at HPP
      obtain ⟨x, hx⟩ : ∃ x, x = sg s cur := ⟨_, rfl⟩
      obtain ⟨q, hq⟩ : ∃ q, q = stk o x := ⟨_, rfl⟩
      rw [← hx] at hd1 hd2 hd3 hd4 hdec HPP
      rw [← hq] at HPP
      have hstk := HSTK.out
      obtain ⟨r, n⟩ := x
      dsimp only at hd1 hd2 hd3 hd4 hdec HPP
      have hstk2 := fun W (h : Tabs W) => HSTK.out W r n hd3 (by omega) h
      rw [← hq] at hstk2
      have hX : t.extract 0 n = s.extract cur (cur + n) := by rw [HTT.out]; exact ext_ext s cur n hd2
      have hR : t.extract n t.size = s.extract (cur + n) s.size := by
        have := ext_rest s cur n t.size hd2 HTZ.out
        rw [← HTT.out] at this
        exact this
      have hXz : (t.extract 0 n).size = n := by rw [hX, ext_size s cur (cur + n) (by omega) hd2]; omega
      rw [← hX] at HPP
      have HP := Aside0.mk HPP
      have HDEC := Aside0.mk hdec
      have HSTK2 := Aside0.mk hstk2
      have HR := Aside0.mk hR
      have HXZ := Aside0.mk hXz
      obtain ⟨A5, c5, e5, _⟩ := HV.out.slice
      obtain ⟨M, hM⟩ : ∃ M, os.length = M := ⟨_, rfl⟩
      rw [List.length_map, hM] at e5
      have hMl : M ≤ 2000 := by omega
      have HM := Aside0.mk hM
      subst e5
      have k3 : (n : Int) ≤ (t.size : Int) := by have := HTZ.out; omega
      have k4 : n ≤ t.size := by have := HTZ.out; omega
      clear hdec hstk hstk2 hX hR hXz hsp hq hx HPP hM
      have hzz : (t.extract n t.size).size < t.size := by rw [HR.out, ext_size s (cur + n) s.size (by omega) (Nat.le_refl _)]; have := HTZ.out; omega
      have HZZ := Aside0.mk hzz
      clear hzz
      cases q with
      | true =>
        have HRZ : Aside0 ((run ++ t.extract 0 n).size = run.size + n) := ⟨by rw [ByteArray.size_append, HXZ.out]⟩
        have hne : (run ++ t.extract 0 n).toList ≠ [] := fun h => by
          have h2 := congrArg List.length h
          rw [Go.ByteArray.toList_eq, Array.length_toList] at h2
          have h3 : (run ++ t.extract 0 n).size = 0 := h2
          have := HRZ.out
          omega
        have n1 : (run ++ t.extract 0 n).toList.isEmpty = false := by
          cases h : (run ++ t.extract 0 n).toList with
          | nil => exact absurd h hne
          | cons a l => rfl
        have n2 : ((run ++ t.extract 0 n).toList = []) = False := eq_false hne
        clear hne
        cases e1 with
        | true =>
          go_wp2_with (first | (go_at_call 20; refine HDEC.out.mono ?_; rintro e w1 ⟨rfl, hd⟩; have HD := Aside0.mk hd; have HT1 := Aside0.mk (HTW.out.below (hd.toBelow (Nat.le_refl _) (by simp))); clear hd HDEC) | (go_at_call 21; refine (HSTK2.out _ HT1.out).mono ?_; rintro e w2 ⟨rfl, hd⟩; have HC2 : Aside0 (Chg [] w w2) := ⟨(HC.out.trans HD.out).trans hd⟩; have HV2 := Aside0.mk (HV.out.chg (HD.out.trans hd) (by simp)); clear hd) | (go_at_call 22; refine (specLow_calls w2 (run ++ t.extract 0 n) (by have := HRZ.out; omega)).mono ?_; rintro e w3 ⟨rfl, hb⟩; have HC3 : Aside0 (Chg [] w w3) := ⟨HC2.out.trans (Chg.below hb)⟩; have HV3 := Aside0.mk (HV2.out.chg (Chg.below hb) (by simp)); clear hb) | (at_builtin; refine wpList_addS (W := w3) rfl _ _ rfl A5 c5 os M HM.out rfl HV3.out (low (run ++ t.extract 0 n)) rfl (by omega) ?_; intro A6 c6 w6 hv6 hc6 hg6; have HV6 := Aside0.mk hv6; have HC6 : Aside0 (Chg [] w w6) := ⟨HC3.out.above hc6 (fun i hi => .inr (HG.out i (by simpa using hi)))⟩; have HG6 : Aside0 (∀ g, (Value.slice A6 (M + 1) c6).ownBlock = some g → w.heap.size ≤ g) := ⟨fun g hg => by rcases hg6 g hg with q | q; exact HG.out g q; exact Nat.le_trans HC3.out.size q⟩; clear hv6 hc6 hg6))
          go_roundw
          case rel => exact ⟨cur + n, k, _, _, os ++ [low (run ++ t.extract 0 n)], rfl, rfl, HR, ⟨by have := HM.out; exact ⟨by omega, by omega, by simp; omega, by show 0 ≤ cur + n; omega⟩⟩, HV6, HG6, HC6, ⟨by have := HP.out; simpa using this⟩⟩
          case measure => exact HZZ.out
        | false =>
          go_wp2_with (first | (go_at_call 20; refine HDEC.out.mono ?_; rintro e w1 ⟨rfl, hd⟩; have HD := Aside0.mk hd; have HT1 := Aside0.mk (HTW.out.below (hd.toBelow (Nat.le_refl _) (by simp))); clear hd HDEC) | (go_at_call 21; refine (HSTK2.out _ HT1.out).mono ?_; rintro e w2 ⟨rfl, hd⟩; have HC2 : Aside0 (Chg [] w w2) := ⟨(HC.out.trans HD.out).trans hd⟩; have HV2 := Aside0.mk (HV.out.chg (HD.out.trans hd) (by simp)); clear hd))
          go_roundw
          case rel => exact ⟨cur + n, k, _, _, os, rfl, rfl, HR, ⟨by have := HM.out; have := HRZ.out; exact ⟨by omega, by omega, by omega, by omega⟩⟩, HV2, HG, HC2, ⟨by have := HP.out; simpa using this⟩⟩
          case measure => exact HZZ.out
      | false =>
        rcases (show run.size = 0 ∨ run.size ≠ 0 by omega) with h0 | h0
        · have hem : run.toList = [] := by rw [empty_of h0, Go.ByteArray.toList_eq]
          have n1 : run.toList.isEmpty = true := by rw [hem]; rfl
          have n2 : (run.toList = []) = True := eq_true hem
          have HP0 : Aside0 (os ++ t.extract 0 n :: sp s o k (cur + n) run = PS) := ⟨by have := HP.out; rw [← empty_of h0] at this; simpa [h0] using this⟩
          clear hem h0
          go_wp2_with (first | (go_at_call 20; refine HDEC.out.mono ?_; rintro e w1 ⟨rfl, hd⟩; have HD := Aside0.mk hd; have HT1 := Aside0.mk (HTW.out.below (hd.toBelow (Nat.le_refl _) (by simp))); clear hd HDEC) | (go_at_call 21; refine (HSTK2.out _ HT1.out).mono ?_; rintro e w2 ⟨rfl, hd⟩; have HC2 : Aside0 (Chg [] w w2) := ⟨(HC.out.trans HD.out).trans hd⟩; have HV2 := Aside0.mk (HV.out.chg (HD.out.trans hd) (by simp)); clear hd) | (at_builtin; refine wpList_addS (W := w2) rfl _ _ rfl A5 c5 os M HM.out rfl HV2.out (t.extract 0 n) rfl (by omega) ?_; intro A6 c6 w6 hv6 hc6 hg6; have HV6 := Aside0.mk hv6; have HC6 : Aside0 (Chg [] w w6) := ⟨HC2.out.above hc6 (fun i hi => .inr (HG.out i (by simpa using hi)))⟩; have HG6 : Aside0 (∀ g, (Value.slice A6 (M + 1) c6).ownBlock = some g → w.heap.size ≤ g) := ⟨fun g hg => by rcases hg6 g hg with q | q; exact HG.out g q; exact Nat.le_trans HC2.out.size q⟩; clear hv6 hc6 hg6))
          go_roundw
          case rel => exact ⟨cur + n, k, _, _, os ++ [t.extract 0 n], rfl, rfl, HR, ⟨by have := HM.out; exact ⟨by omega, by omega, by simp; omega, by omega⟩⟩, HV6, HG6, HC6, ⟨by have := HP0.out; simpa using this⟩⟩
          case measure => exact HZZ.out
        · have hne : run.toList ≠ [] := fun h => by
            have h2 := congrArg List.length h
            rw [Go.ByteArray.toList_eq, Array.length_toList] at h2
            exact h0 h2
          have n1 : run.toList.isEmpty = false := by
            cases h : run.toList with
            | nil => exact absurd h hne
            | cons a l => rfl
          have n2 : (run.toList = []) = False := eq_false hne
          have HP0 : Aside0 (os ++ low run :: t.extract 0 n :: sp s o k (cur + n) ⟨#[]⟩ = PS) := ⟨by have := HP.out; simpa [h0] using this⟩
          clear hne h0
          go_wp2_with (first | (go_at_call 20; refine HDEC.out.mono ?_; rintro e w1 ⟨rfl, hd⟩; have HD := Aside0.mk hd; have HT1 := Aside0.mk (HTW.out.below (hd.toBelow (Nat.le_refl _) (by simp))); clear hd HDEC) | (go_at_call 21; refine (HSTK2.out _ HT1.out).mono ?_; rintro e w2 ⟨rfl, hd⟩; have HC2 : Aside0 (Chg [] w w2) := ⟨(HC.out.trans HD.out).trans hd⟩; have HV2 := Aside0.mk (HV.out.chg (HD.out.trans hd) (by simp)); clear hd) | (go_at_call 22; refine (specLow_calls w2 run (by omega)).mono ?_; rintro e w3 ⟨rfl, hb⟩; have HC3 : Aside0 (Chg [] w w3) := ⟨HC2.out.trans (Chg.below hb)⟩; have HV3 := Aside0.mk (HV2.out.chg (Chg.below hb) (by simp)); clear hb) | (at_builtin; refine wpList_addS (W := w3) rfl _ _ rfl A5 c5 os M HM.out rfl HV3.out (low run) rfl (by omega) ?_; intro A6 c6 w6 hv6 hc6 hg6; have HV6 := Aside0.mk hv6; have HC6 : Aside0 (Chg [] w w6) := ⟨HC3.out.above hc6 (fun i hi => .inr (HG.out i (by simpa using hi)))⟩; have HG6 : Aside0 (∀ g, (Value.slice A6 (M + 1) c6).ownBlock = some g → w.heap.size ≤ g) := ⟨fun g hg => by rcases hg6 g hg with q | q; exact HG.out g q; exact Nat.le_trans HC3.out.size q⟩; clear hv6 hc6 hg6) | (at_builtin; refine wpList_addS (W := w6) rfl _ _ rfl A6 c6 (os ++ [low run]) (M + 1) (by simp [HM.out]) rfl HV6.out (t.extract 0 n) rfl (by omega) ?_; intro A8 c8 w8 hv8 hc8 hg8; have HV8 := Aside0.mk hv8; have HC8 : Aside0 (Chg [] w w8) := ⟨HC6.out.above hc8 (fun i hi => .inr (HG6.out i (by simpa using hi)))⟩; have HG8 : Aside0 (∀ g, (Value.slice A8 ((M + 1) + 1) c8).ownBlock = some g → w.heap.size ≤ g) := ⟨fun g hg => by rcases hg8 g hg with q | q; exact HG6.out g q; exact Nat.le_trans HC6.out.size q⟩; clear hv8 hc8 hg8))
          go_roundw
          case rel => exact ⟨cur + n, k, _, _, os ++ [low run] ++ [t.extract 0 n], rfl, rfl, HR, ⟨by have := HM.out; exact ⟨by omega, by omega, by simp; omega, by show 0 ≤ cur + n; omega⟩⟩, HV8, HG8, HC8, ⟨by have := HP0.out; simpa using this⟩⟩
          case measure => exact HZZ.out
    · obtain ⟨k, rfl⟩ : ∃ k', k = k' + 1 := ⟨k - 1, by omega⟩
      have hsp : sp s o (k + 1) cur run = (if run.size ≠ 0 then [low run] else []) := by
        show (if cur < s.size then _ else _) = _
        rw [if_neg hlt]
      have HPP := HP.out
      rw [hsp] at HPP
      have HP := Aside0.mk HPP
      obtain ⟨A5, c5, e5, _⟩ := HV.out.slice
      obtain ⟨M, hM⟩ : ∃ M, os.length = M := ⟨_, rfl⟩
      rw [List.length_map, hM] at e5
      have hMl : M ≤ 2000 := by omega
      have HM := Aside0.mk hM
      subst e5
      have k1 : decide ((t.size : Int) > 0) = false := decide_eq_false (by have := HTZ.out; omega)
      have k2 : decide (0 < t.size) = false := decide_eq_false (by have := HTZ.out; omega)
      clear hsp HPP hM
      rcases (show run.size = 0 ∨ run.size ≠ 0 by omega) with h0 | h0
      · have hem : run.toList = [] := by rw [empty_of h0, Go.ByteArray.toList_eq]
        have n1 : run.toList.isEmpty = true := by rw [hem]; rfl
        have n2 : (run.toList = []) = True := eq_true hem
        have HP0 : Aside0 (os = PS) := ⟨by have := HP.out; simpa [h0] using this⟩
        clear hem h0
        go_wp2_with fail
        go_ret
        exact ⟨_, rfl, by rw [← HP0.out]; exact HV.out, HC.out, HG.out⟩
      · have hne : run.toList ≠ [] := fun h => by
          have h2 := congrArg List.length h
          rw [Go.ByteArray.toList_eq, Array.length_toList] at h2
          exact h0 h2
        have n1 : run.toList.isEmpty = false := by
          cases h : run.toList with
          | nil => exact absurd h hne
          | cons a l => rfl
        have n2 : (run.toList = []) = False := eq_false hne
        have HP0 : Aside0 (os ++ [low run] = PS) := ⟨by have := HP.out; simpa [h0] using this⟩
        clear hne h0
        go_wp2_with (first | (go_at_call 22; refine (specLow_calls wr run (by omega)).mono ?_; rintro e w3 ⟨rfl, hb⟩; have HC3 : Aside0 (Chg [] w w3) := ⟨HC.out.trans (Chg.below hb)⟩; have HV3 := Aside0.mk (HV.out.chg (Chg.below hb) (by simp)); clear hb) | (at_builtin; refine wpList_addS (W := w3) rfl _ _ rfl A5 c5 os M HM.out rfl HV3.out (low run) rfl (by omega) ?_; intro A6 c6 w6 hv6 hc6 hg6; have HV6 := Aside0.mk hv6; have HC6 : Aside0 (Chg [] w w6) := ⟨HC3.out.above hc6 (fun i hi => .inr (HG.out i (by simpa using hi)))⟩; have HG6 : Aside0 (∀ g, (Value.slice A6 (M + 1) c6).ownBlock = some g → w.heap.size ≤ g) := ⟨fun g hg => by rcases hg6 g hg with q | q; exact HG.out g q; exact Nat.le_trans HC3.out.size q⟩; clear hv6 hc6 hg6))
        go_ret
        exact ⟨_, rfl, by rw [← HP0.out]; exact HV6.out, HC6.out, HG6.out⟩
end Go.Proofs.YthecfligfhpccaaDoor.Pa
namespace Go.Proofs.YthecfligfhpccaaDoor.P
open Go.RowKit Go.Proofs.YthecfligfhpccaaDoorW.PrintWords Go.Proofs.YthecfligfhpccaaDoor.Gn Go.Proofs.YthecfligfhpccaaDoor.Pa Go.Proofs.YthecfligfhpccaaDoor.X
def spec_Parts.f (x : ByteArray) (e a n : Bool) : Option (List ByteArray) := if x.size ≤ 1000 then some (parts x ⟨e, a, n⟩) else none
theorem spec_Parts.calls (x : ByteArray) (e a n : Bool) (r : List ByteArray) (w : World) (ht : Tabs w) (h : spec_Parts.f x e a n = some r) :
    Calls Tryd.prog 12 #[.string x, .bool e, .bool a, .bool n] w fun e w' => ∃ v0_ : Value, e = .returned v0_ ∧ Kd.R Kd.string 9 w' w.heap.size (fun _ => True) v0_ r ∧ Below w.heap.size w w' := by
  unfold spec_Parts.f at h
  split at h
  case isFalse => cases h
  rename_i hok
  injection h with h
  subst h
  have h1 := specParts_calls w x ⟨e, a, n⟩ hok ht
  rw [sp_parts] at h1
  refine h1.mono ?_
  rintro e w' ⟨v, rfl, hr, hc, hg⟩
  exact ⟨v, rfl, R_of_row (enc := Value.string) hr (fun g hq => ⟨hg g hq, trivial⟩), hc.toBelow (Nat.le_refl _) (by simp)⟩
end Go.Proofs.YthecfligfhpccaaDoor.P
