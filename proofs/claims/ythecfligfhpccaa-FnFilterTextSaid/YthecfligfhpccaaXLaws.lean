/- Further laws on rows of the call's own: a row made empty with room; rows behind what turns one block. -/
import Derived.Test.YthecfligfhpccaaWWords
import Derived.OwnWalk
import Derived.Maps.RangeWalk
set_option linter.unusedVariables false
namespace Go.Proofs.Ythecfligfhpccaa.X
open Go.RowKit Go.Proofs.YthecfligfhpccaaW.PrintWords

theorem R_make0 {P : Program} {ops : Array Oper} {rest : List Oper} {o : Oper} {a : Act} {Q : Exit → Act → World → Prop} {α : Type} (d : Kd α) {w0 W : World} (base e : Nat) (hgd : o.guard = none) (t : TypeId) (x y : Operand) (ho : o.op = .makeSlice t x y) (hx : a.eval x = .int .i64 0) (m : Int) (hy : a.eval y = .int .i64 m)
    (ht : P.underlying t = some (.slice e)) (z : Value) (bytes : Nat) (hinfo : (P.info? e).map (fun i => (i.zero, i.size, i.bytes)) = some (some z, d.sz, bytes)) {ok : Nat → Prop}
    (h0 : 0 ≤ m) (hl : m.toNat * bytes ≤ 281474976710656) (hm : m ≤ 9223372036854775807) (hfresh : ok W.heap.size) (HB : Below base w0 W) (hbase : base ≤ W.heap.size)
    (h : ∀ v1 w1, d.R e w1 base ok v1 [] → Below base w0 w1 → W.grownBy w1 none → (∃ b, v1.ownBlock = some b ∧ W.heap.size ≤ b) → wpList P ops Q rest (a.put o.dst v1) w1) : wpList P ops Q (o :: rest) a W := by
  obtain ⟨i, hi, hz0, hz1, hz2⟩ := info_parts hinfo
  obtain ⟨n, rfl⟩ := Int.eq_ofNat_of_zero_le h0
  simp only [Int.toNat_natCast] at hl
  refine wpList_make_own W hgd x y t ho base e i z d.sz ht hi hz0 hz1 .i64 .i64 _ n hx hy rfl (by rw [hz2, Nat.mul_comm]; exact hl) (by unfold maxLen; omega) hbase ?_
  intro w1 hown hg
  refine h _ w1 ⟨fun k hk => ?_, [], hown, Reps.none _ _⟩ (HB.grown hg hbase (by simp)) hg ⟨W.heap.size, rfl, Nat.le_refl _⟩
  have : W.heap.size = k := by simpa [Value.ownBlock] using hk
  rw [← this]
  exact hfresh

/-- A row that lies in a block known whole reads as what its cells say. -/
theorem C_block {α : Type} {d : Kd α} {W : World} {b : Nat} {cs : Array Value} {e : TypeId} {fr : Nat × Nat} {xs : List α} (hb : W.heap[b]? = some (.cells cs e fr)) (hr : Reps (d.K W) d.sz xs cs.toList) (hl : xs.length ≤ 9223372036854775807) : d.C W (some ⟨b, 0, none⟩) xs.length xs := by
  refine ⟨rfl, hl, fun _ => ⟨_, rfl, fun j p hj => ?_⟩⟩
  have hjl := (List.getElem?_eq_some_iff.1 hj).1
  have h1 := hr.2 j p hj
  have hlen := d.K_len h1
  refine ⟨_, hlen, h1, fun i u hu => ?_⟩
  have hi : i < d.sz := by
    have := (List.getElem?_eq_some_iff.1 hu).1
    omega
  have h2 : cs[j * d.sz + i]? = some u := by
    rw [List.getElem?_take_of_lt hi, List.getElem?_drop] at hu
    simpa using hu
  have h3 : (Addr.add ⟨b, 0, none⟩ (j * d.sz + i)) = ⟨b, j * d.sz + i, none⟩ := by
    unfold Addr.add
    by_cases h0 : j * d.sz + i = 0
    · rw [if_pos h0, h0]
    · rw [if_neg h0, Nat.zero_add]
  rw [h3]
  have h4 : u.oneCell' = true := d.K_one h1 u (List.mem_of_getElem? hu)
  simp [World.cell?, hb, h2]
theorem heap_old {w : World} {k : Nat} (o : Obj) (h : k < w.heap.size) : (w.alloc o).heap[k]? = w.heap[k]? := by
  show (w.heap.push o)[k]? = _
  rw [Array.getElem?_push, if_neg (by omega)]
theorem heap_new (w : World) (o : Obj) : (w.alloc o).heap[w.heap.size]? = some o := by
  show (w.heap.push o)[w.heap.size]? = _
  rw [Array.getElem?_push, if_pos rfl]
/-- What came in is read, by way of a row that is made of it. -/
theorem C_fixed {α : Type} {d : Kd α} {w W : World} {A : Option Addr} {n : Nat} {xs : List α} (h : (Kd.fixed d w).C W A n xs) (hb : Below w.heap.size w W) : d.C W A n xs :=
  ReadsRow.imp_ h (Below.refl _ _) (fun _ _ hk => d.K_below hb hk)
theorem C_came {α : Type} {d : Kd α} {w W : World} {A : Option Addr} {n : Nat} {xs : List α} (h : d.C w A n xs) (hb : Below w.heap.size w W) : ReadsRow (d.K w) d.sz W A n xs :=
  ReadsRow.imp_ h hb (fun _ _ hk => hk)
theorem R_grown_lt {α : Type} {d : Kd α} {e base B : Nat} {ok : Nat → Prop} {w w1 : World} {v : Value} {xs : List α} (h : d.R e w base ok v xs) (hg : w.grownBy w1 (some B)) (hB : B < base) : d.R e w1 base ok v xs :=
  Kd.R_mono (Kd.R_step (Kd.R_bound h) (fun k hk hlt => hg.block k hlt (by intro e1; injection e1 with e1; omega))) (fun _ hk => hk.1)
/-- Rows stay where a block that is none of cells (a map, an iterator) has turned. -/
theorem R_grown_obj {α : Type} {d : Kd α} {e base r : Nat} {ok : Nat → Prop} {w w1 : World} {v : Value} {xs : List α} (h : d.R e w base ok v xs) (hg : w.grownBy w1 (some r)) (hr : ∀ cells q, w.heap[r]? ≠ some (.cells cells q (0, 0))) : d.R e w1 base ok v xs :=
  Kd.R_mono (Kd.R_step (Kd.R_bound h) (fun k hk hlt => hg.block k hlt (by
    obtain ⟨_, _, _, q, _, cells, hc⟩ := hk
    intro e1
    injection e1 with e1
    subst e1
    exact hr cells q hc))) (fun _ hk => hk.1)
theorem ranges_obj {H : Type} {w : World} {P : Program} {k : TypeId} {R : Value → Option (DataW H × List MemPlace)} {b r n cnt : Nat} {D : DataW H} {left : Lit → Bool} (h : w.ranges P k R b r n D left cnt) : ∀ cells q, w.heap[r]? ≠ some (.cells cells q (0, 0)) := by
  obtain ⟨es, clock, since, seen, c0, _, _, _, _, h, _⟩ := h
  intro cells q e
  rw [h] at e
  cases e
/-- A cell that is read stays where a block that is no row, and new blocks, have turned. -/
theorem grown_cell {w w' : World} {B : Nat} {a : Addr} {v : Value} (hm : ∃ es c, w.heap[B]? = some (.map es c)) (hg : w.grownBy w' (some B)) (h : w.cell? a = some v) : w'.cell? a = some v := by
  refine hg.cell h ?_
  intro e
  injection e with e
  obtain ⟨es, c, hm⟩ := hm
  rw [← e] at hm
  simp [World.cell?, hm] at h
end Go.Proofs.Ythecfligfhpccaa.X
