/- laws.lowered: the walk. -/
import Derived.Test.YthecfligfhpccaaDoorEPar
set_option linter.unusedVariables false
namespace Go.Proofs.YthecfligfhpccaaDoor.Pa
open Go.RowKit Go.Lib Go.Proofs.YthecfligfhpccaaDoorW.PrintWords Go.Proofs.YthecfligfhpccaaDoor.Gn Go.Proofs.YthecfligfhpccaaDoor.X
/-- Block b holds these numbers as bytes, of the call's own. -/
def WrB (w : World) (b n : Nat) (f : Nat → Int) : Prop := ∃ cs, w.heap[b]? = some (.cells cs 5 (cs.size, cs.size + 1)) ∧ n ≤ cs.size ∧ ∀ j, j < n → cs[j]? = some (.int .u8 (f j))
theorem WrB.lt {w : World} {b n : Nat} {f : Nat → Int} (h : WrB w b n f) : b < w.heap.size := by
  obtain ⟨cs, h, _⟩ := h
  exact (Array.getElem?_eq_some_iff.1 h).1
theorem WrB.cell {w : World} {b n : Nat} {f : Nat → Int} (h : WrB w b n f) (j : Nat) (hj : j < n) : w.cell? ⟨b, j, none⟩ = some (.int .u8 (f j)) := by
  obtain ⟨cs, h1, _, h2⟩ := h
  simp [World.cell?, h1, h2 j hj]
theorem WrB.frozen {w : World} {b n : Nat} {f : Nat → Int} (h : WrB w b n f) (j : Nat) (hj : j < n) : w.frozen? ⟨b, j, none⟩ = false := by
  obtain ⟨cs, h1, h3, h2⟩ := h
  simp [World.frozen?, h1]
  omega
theorem WrB.set {w : World} {b n : Nat} {f : Nat → Int} (h : WrB w b n f) (i : Nat) (hi : i < n) (x : Int) : WrB (w.setCell ⟨b, i, none⟩ (.int .u8 x)) b n (fun j => if j = i then x else f j) := by
  obtain ⟨cs, h1, h3, h2⟩ := h
  refine ⟨cs.setIfInBounds i (.int .u8 x), ?_, by simpa using h3, fun j hj => ?_⟩
  · have := heap_put w ⟨b, i, none⟩ _ _ _ (.int .u8 x) h1 rfl
    rw [this]
    simp
  · rw [Array.getElem?_setIfInBounds]
    dsimp only
    by_cases e : i = j
    · subst e; rw [if_pos rfl, if_pos (by omega), if_pos rfl]
    · rw [if_neg e, if_neg (fun g => e g.symm), h2 j hj]
theorem WrB.ext {w : World} {b n : Nat} {f g : Nat → Int} (h : WrB w b n f) (hf : ∀ j, j < n → f j = g j) : WrB w b n g := by
  obtain ⟨cs, h1, h3, h2⟩ := h
  exact ⟨cs, h1, h3, fun j hj => by rw [h2 j hj, hf j hj]⟩
theorem WrB.rd {w : World} {b : Nat} {p : ByteArray} {f : Nat → Int} (h : WrB w b p.size f) (hf : ∀ j, j < p.size → f j = byt p j) : RdB w b 0 p := by
  obtain ⟨cs, h1, h3, h2⟩ := h
  exact ⟨cs, _, h1, fun j hj => by rw [Nat.zero_add, h2 j hj, hf j hj]⟩
theorem bytes_WrB (w : World) (s : ByteArray) : WrB (Lib.bytesWorld w 5 s) w.heap.size s.size (byt s) := by
  have h1 := Lib.bytesWorld_at_new w 5 s
  obtain ⟨cs, fr, h2, h3⟩ := bytes_RdB w s
  rw [h1] at h2
  injection h2 with h2
  injection h2 with h2 _ _
  subst h2
  refine ⟨_, h1, ?_, fun j hj => by have := h3 j hj; rwa [Nat.zero_add] at this⟩
  unfold Lib.bytesCells
  simp only [Array.size_append, Array.size_map]
  show s.data.size ≤ _
  omega
set_option maxHeartbeats 2000000 in
set_option maxRecDepth 100000 in
theorem lowered_calls (w : World) (s : ByteArray) (hl : s.size ≤ 1000000) : Calls Tryd.prog 8 #[.string s] w fun e w' => e = .returned (.string (low s)) ∧ Below w.heap.size w w' := by
  have hbz := print_bytes (P := Tryd.prog) 9 43 5 Tryd.underlying9 Tryd.underlying43 Tryd.underlying5 s
  have HW := Aside0.mk (bytes_WrB w s)
  have HC := Aside0.mk (bytes_chg w s)
  go_enter Tryd.func8, Tryd.ntmps8
  go_wp2_with fail
  clear hbz
  go_loopw [9] (fun v9 wr => ∃ i : Nat, v9 = .int .i64 i ∧ Aside0 (i ≤ s.size) ∧ Aside0 (WrB wr w.heap.size s.size (fun j => if j < i then lowI (byt s j) else byt s j)) ∧ Aside0 (Chg [] w wr)) (fun v9 _ => s.size - (intOf v9).toNat)
  case atStart => exact ⟨0, rfl, ⟨Nat.zero_le _⟩, ⟨HW.out.ext (fun j _ => by rw [if_neg (by omega)])⟩, HC⟩
  case round =>
    clear HW HC
    obtain ⟨i, rfl, HI, HW, HC⟩ := hrel
    by_cases hlt : i < s.size
    · have c1 := HW.out.cell i hlt
      rw [if_neg (Nat.lt_irrefl i)] at c1
      have f1 := HW.out.frozen i hlt
      have hrg := byt_range s i
      obtain ⟨x, hx⟩ : ∃ x, x = byt s i := ⟨_, rfl⟩
      rw [← hx] at c1 hrg
      have HX := Aside0.mk hx
      have HW4 : Aside0 (WrB (wr.setCell ⟨w.heap.size, i, none⟩ (.int .u8 (lowI x))) w.heap.size s.size (fun j => if j < i + 1 then lowI (byt s j) else byt s j)) := ⟨(HW.out.set i hlt (lowI x)).ext (fun j _ => by
        by_cases e : j = i
        · subst e; rw [if_pos rfl, if_pos (by omega), hx]
        · rw [if_neg e]
          by_cases e2 : j < i
          · rw [if_pos e2, if_pos (by omega)]
          · rw [if_neg e2, if_neg (by omega)])⟩
      have HC4 : Aside0 (Chg [] w (wr.setCell ⟨w.heap.size, i, none⟩ (.int .u8 (lowI x)))) := ⟨HC.out.setCell (.inr (Nat.le_refl _)) _⟩
      have HW5 : lowI x = x → Aside0 (WrB wr w.heap.size s.size (fun j => if j < i + 1 then lowI (byt s j) else byt s j)) := fun e => ⟨HW.out.ext (fun j _ => by
        by_cases e1 : j = i
        · subst e1; rw [if_neg (by omega), if_pos (by omega), ← hx, e]
        · by_cases e2 : j < i
          · rw [if_pos e2, if_pos (by omega)]
          · rw [if_neg e2, if_neg (by omega)])⟩
      have k1 : decide ((0:Int) ≤ (i:Int)) = true := decide_eq_true (by omega)
      have k2 : decide ((i:Int) < (s.size:Int)) = true := decide_eq_true (by omega)
      clear hx
      rcases (show x < 65 ∨ (65 ≤ x ∧ x ≤ 90) ∨ (65 ≤ x ∧ 90 < x) by omega) with h1 | ⟨h1, h2⟩ | ⟨h1, h2⟩
      · have q1 : decide (x ≥ 65) = false := decide_eq_false (by omega)
        have HW6 := HW5 (by unfold lowI; rw [if_neg (by omega)])
        clear HW5
        go_wp2_with fail
        go_roundw
        case rel => exact ⟨i + 1, by go_num, ⟨by omega⟩, HW6, HC⟩
        case measure => simp [intOf]; omega
      · have q1 : decide (x ≥ 65) = true := decide_eq_true (by omega)
        have q2 : decide (x ≤ 90) = true := decide_eq_true (by omega)
        have hl : lowI x = x + 32 := by unfold lowI; rw [if_pos (by omega)]
        rw [hl] at HW4 HC4
        clear hl HW5
        go_wp2_with fail
        go_roundw
        case rel => exact ⟨i + 1, by go_num, ⟨by omega⟩, HW4, HC4⟩
        case measure => simp [intOf]; omega
      · have q1 : decide (x ≥ 65) = true := decide_eq_true (by omega)
        have q2 : decide (x ≤ 90) = false := decide_eq_false (by omega)
        have HW6 := HW5 (by unfold lowI; rw [if_neg (by omega)])
        clear HW5
        go_wp2_with fail
        go_roundw
        case rel => exact ⟨i + 1, by go_num, ⟨by omega⟩, HW6, HC⟩
        case measure => simp [intOf]; omega
    · have hi : i = s.size := by have := HI.out; omega
      have hr : RdB wr w.heap.size 0 (low s) := by
        have h := HW.out
        have hz := low_size s
        rw [← hz] at h
        refine h.rd (fun j hj => ?_)
        rw [hz] at hj
        rw [if_pos (by omega), byt_low s j hj]
      have hst := fun c => PRd.string (P := Tryd.prog) (c := c) hr (by rw [low_size]; omega) (src := 43) (dst := 9) (e := 5) Tryd.underlying43 Tryd.underlying5 Tryd.underlying9
      rw [low_size] at hst
      have k1 : decide (i < s.size) = false := decide_eq_false hlt
      have k2 : decide ((i:Int) < (s.size:Int)) = false := decide_eq_false (by omega)
      clear hi hr
      go_wp2_with fail
      go_ret
      exact ⟨rfl, HC.out.toBelow (Nat.le_refl _) (by simp)⟩
end Go.Proofs.YthecfligfhpccaaDoor.Pa
namespace Go.Proofs.YthecfligfhpccaaDoor.P
open Go.RowKit Go.Proofs.YthecfligfhpccaaDoorW.PrintWords Go.Proofs.YthecfligfhpccaaDoor.Gn Go.Proofs.YthecfligfhpccaaDoor.Pa Go.Proofs.YthecfligfhpccaaDoor.X
def laws_lowered.f (x : ByteArray) : Option ByteArray := if x.size ≤ 1000000 then some (low x) else none
theorem laws_lowered.calls (x : ByteArray) (r : ByteArray) (w : World) (h : laws_lowered.f x = some r) :
    Calls Tryd.prog 8 #[.string x] w fun e w' => e = .returned (.string r) ∧ Below w.heap.size w w' := by
  unfold laws_lowered.f at h
  split at h
  case isFalse => cases h
  rename_i hok
  injection h with h
  subst h
  exact lowered_calls w x hok
end Go.Proofs.YthecfligfhpccaaDoor.P
