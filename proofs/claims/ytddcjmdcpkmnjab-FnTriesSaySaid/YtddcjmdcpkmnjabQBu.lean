/- The double array: rows of signs and places, and the map of places by signs, in memory. The double array: what the first loop of add holds, step by step. The double array: add. Between rows of cells and the print's kinds. sort.Strings and sort.StringsAreSorted over rows of texts. The double array: BuildWithIDs. The double array: Build, and impl.built. The double array: search. The double array: Find. -/
import Derived.Test.YtddcjmdcpkmnjabQBa
import Derived.Laws.IdiomStrings
import Derived.Deep.Cut
import Derived.Test.YtddcjmdcpkmnjabP0
import Derived.Test.YtddcjmdcpkmnjabShelf
import Derived.Test.YtddcjmdcpkmnjabP42
set_option linter.unusedVariables false
namespace Go.Proofs.Ytddcjmdcpkmnjab.Gn
open Go.RowKit
/-- The cells of block g, from its beginning on, hold xs. -/
def RowAt {α : Type} (w : World) (g : Nat) (enc : α → Value) (xs : List α) : Prop := ∀ (j : Nat) (h : j < xs.length), w.cell? ⟨g, j, none⟩ = some (enc xs[j])
theorem RowAt.chg {α : Type} {S : List Nat} {w w' : World} {g : Nat} {enc : α → Value} {xs : List α} (h : RowAt w g enc xs) (hc : Chg S w w') (hs : g ∉ S) : RowAt w' g enc xs := fun j hj => by
  have h1 := h j hj
  have hlt : g < w.heap.size := World.block_lt_of_cell? w _ h1
  exact (World.cell?_of_block (w := w) (hc.block g hlt hs)).trans h1
theorem RowAt.of_row {α : Type} {w : World} {e g n cap : Nat} {enc : α → Value} {xs : List α} (h : ORow w e (.slice (some ⟨g, 0, none⟩) n cap) (xs.map enc)) : RowAt w g enc xs := fun j hj => by
  have := h.cell j (by simpa using hj)
  simpa using this
/-- '[]byte(s)'. -/
theorem wpList_toBytes {P : Program} {w : World} {ops : Array Oper} {rest : List Oper} {o : Oper} {a : Act} {Q : Exit → Act → World → Prop} (hg : o.guard = none) (x : Operand) (src dst e : TypeId) (ho : o.op = .convert src dst x) (s : ByteArray) (hx : a.eval x = .string s)
    (hs : P.underlying src = some .string) (hd : P.underlying dst = some (.slice e)) (he : P.underlying e = some (.int .u8))
    (hK : ∀ w' cap, Chg [] w w' → w'.heap.size = w.heap.size + 1 → (∀ j, j < s.size → w'.cell? ⟨w.heap.size, j, none⟩ = some (.int .u8 ((s.get! j).toNat : Nat))) → s.size ≤ cap → wpList P ops Q rest (a.put o.dst (.slice (some ⟨w.heap.size, 0, none⟩) s.size cap)) w') :
    wpList P ops Q (o :: rest) a w := by
  refine wpList_plain hg fun K hK' => ?_
  have hr := run_bytes_of_string (P := P) w src dst e s hs hd he
  unfold Oper.wp
  simp [execOp, ho, hx, hr, Result.andThen]
  refine hK' _ _ (hK _ _ (((Chg.refl [] w).drew).alloc _) (size_alloc _ _) (fun j hj => ?_) ?_)
  · have h2 : j < s.data.size := hj
    have hb : (bytesRow s (grownCap w s.size 0 e))[j]? = some (.int .u8 ((s.get! j).toNat : Nat)) := by
      unfold bytesRow
      rw [Array.getElem?_append_left (by simpa using h2), Array.getElem?_map, Array.getElem?_eq_getElem h2]
      show some (Value.int .u8 ((s.data[j]).toNat : Int)) = some (Value.int .u8 ((s.data[j]!).toNat : Int))
      rw [getElem!_pos s.data j h2]
    have hh := heap_alloc_new w.drew (.cells (bytesRow s (grownCap w s.size 0 e)) e ((bytesRow s (grownCap w s.size 0 e)).size, (bytesRow s (grownCap w s.size 0 e)).size + 1))
    have hsz : w.drew.heap.size = w.heap.size := rfl
    rw [hsz] at hh
    unfold World.cell?
    rw [show (w.drew.alloc _).heap[(⟨w.heap.size, j, none⟩ : Addr).block]? = _ from hh]
    exact hb
  · exact grownCap_ge _ _ _ _
end Go.Proofs.Ytddcjmdcpkmnjab.Gn
namespace Go.Proofs.Ytddcjmdcpkmnjab.Da
open Go.RowKit Go.Proofs.Ytddcjmdcpkmnjab.Gn
def u8 (n : Nat) : Value := .int .u8 (n : Int)
def i64 (n : Nat) : Value := .int .i64 (n : Int)
/-- The places by their signs; of sign 0 none. -/
def subz (kw : List ByteArray) (i : Nat) (br : List Nat) (c : Nat) : List Nat := if c = 0 then [] else sub kw i br c
/-- Map m has, by each sign, the places that have it, in rows of their own, from block base on, none of them that of vc. -/
def SubM (w : World) (m base : Nat) (vc : Value) (kw : List ByteArray) (i : Nat) (br : List Nat) : Prop :=
  ∃ S : List (Int × Value), MapAt w m (fun n : Int => Value.int .u8 n) S ∧
    (∀ c : Nat, (getL S (c : Int) = none ∧ subz kw i br c = []) ∨ ∃ v g, getL S (c : Int) = some v ∧ subz kw i br c ≠ [] ∧ v.ownBlock = some g ∧ base ≤ g ∧ vc.ownBlock ≠ some g ∧ ORow w 3 v ((subz kw i br c).map i64)) ∧
    (∀ (c c' : Nat) v v' g, getL S (c : Int) = some v → getL S (c' : Int) = some v' → v.ownBlock = some g → v'.ownBlock = some g → c = c')
theorem SubM.new (w : World) (base : Nat) (vc : Value) (kw : List ByteArray) (i : Nat) : SubM (w.alloc (.map #[] 0)) w.heap.size base vc kw i [] :=
  ⟨[], MapAt.new w _, fun c => .inl ⟨rfl, by unfold subz sub; split <;> rfl⟩, fun c c' v v' g h => by cases h⟩
theorem SubM.chg {T : List Nat} {w w' : World} {m base : Nat} {vc : Value} {kw : List ByteArray} {i : Nat} {br : List Nat} (h : SubM w m base vc kw i br) (hc : Chg T w w') (hm : m ∉ T) (hT : ∀ g ∈ T, g < base ∨ vc.ownBlock = some g) : SubM w' m base vc kw i br := by
  obtain ⟨S, h1, h2, h3⟩ := h
  refine ⟨S, h1.chg hc hm, fun c => ?_, h3⟩
  rcases h2 c with g | ⟨v, g, a1, a2, a3, a4, a5, a6⟩
  · exact .inl g
  · exact .inr ⟨v, g, a1, a2, a3, a4, a5, a6.chg hc (fun g2 hg2 hin => by
      have e : g2 = g := by rw [a3] at hg2; injection hg2 with hg2; exact hg2.symm
      subst e
      rcases hT g2 hin with k | k
      · omega
      · exact a5 k)⟩
theorem SubM.revc {w : World} {m base : Nat} {vc vc' : Value} {kw : List ByteArray} {i : Nat} {br : List Nat} (h : SubM w m base vc kw i br) (hv : vc'.ownBlock = vc.ownBlock ∨ ∃ g, vc'.ownBlock = some g ∧ w.heap.size ≤ g) : SubM w m base vc' kw i br := by
  obtain ⟨S, h1, h2, h3⟩ := h
  refine ⟨S, h1, fun c => ?_, h3⟩
  rcases h2 c with g | ⟨v, g, a1, a2, a3, a4, a5, a6⟩
  · exact .inl g
  · refine .inr ⟨v, g, a1, a2, a3, a4, fun e => ?_, a6⟩
    rcases hv with k | ⟨g2, k1, k2⟩
    · rw [k] at e; exact a5 e
    · rw [k1] at e
      injection e with e
      have := (a6.block a3).1
      omega
theorem SubM.lt {w : World} {m base : Nat} {vc : Value} {kw : List ByteArray} {i : Nat} {br : List Nat} (h : SubM w m base vc kw i br) : m < w.heap.size := by
  obtain ⟨S, h1, _⟩ := h
  exact h1.lt
theorem subz_snoc (kw : List ByteArray) (i : Nat) (br : List Nat) (x c : Nat) : subz kw i (br ++ [x]) c = subz kw i br c ++ (if chAt (wd kw x) i = c ∧ c ≠ 0 then [x] else []) := by
  unfold subz sub
  by_cases e : c = 0
  · rw [if_pos e, if_pos e, if_neg (fun g => g.2 e)]; rfl
  · rw [if_neg e, if_neg e, List.filter_append]
    by_cases e2 : chAt (wd kw x) i = c
    · rw [if_pos ⟨e2, e⟩]; simp [e2]
    · rw [if_neg (fun g => e2 g.1)]; simp [e2]
theorem SubM.skip {w : World} {m base : Nat} {vc : Value} {kw : List ByteArray} {i : Nat} {br : List Nat} (h : SubM w m base vc kw i br) (x : Nat) (hx : chAt (wd kw x) i = 0) : SubM w m base vc kw i (br ++ [x]) := by
  obtain ⟨S, h1, h2, h3⟩ := h
  refine ⟨S, h1, fun c => ?_, h3⟩
  have : subz kw i (br ++ [x]) c = subz kw i br c := by
    rw [subz_snoc, if_neg (fun g => g.2 (by rw [← g.1]; exact hx)), List.append_nil]
  rw [this]
  exact h2 c
/-- What the look-up of a sign tells, and how it is put back behind an append. -/
theorem SubM.at {w : World} {m base : Nat} {vc : Value} {kw : List ByteArray} {i : Nat} {br : List Nat} (h : SubM w m base vc kw i br) (x : Nat) (hx : chAt (wd kw x) i ≠ 0) (hb : base ≤ w.heap.size) (hvc : ∀ g, vc.ownBlock = some g → g < w.heap.size) :
    ∃ (S : List (Int × Value)) (v : Value), MapAt w m (fun n : Int => Value.int .u8 n) S ∧ (getL S (chAt (wd kw x) i : Int)).getD (.slice none 0 0) = v ∧ ORow w 3 v ((sub kw i br (chAt (wd kw x) i)).map i64) ∧ (∀ g, v.ownBlock = some g → base ≤ g ∧ vc.ownBlock ≠ some g) ∧
      ∀ w1 w2 v', Chg v.ownBlock.toList w w1 → ORow w1 3 v' ((sub kw i br (chAt (wd kw x) i)).map i64 ++ [i64 x]) → (v'.ownBlock = v.ownBlock ∨ ∃ g, v'.ownBlock = some g ∧ w.heap.size ≤ g) → MapAt w2 m (fun n : Int => Value.int .u8 n) (putL S (chAt (wd kw x) i : Int) v') → Chg [m] w1 w2 → SubM w2 m base vc kw i (br ++ [x]) := by
  obtain ⟨S, h1, h2, h3⟩ := h
  generalize hc0 : chAt (wd kw x) i = c0 at *
  have hs0 : subz kw i br c0 = sub kw i br c0 := if_neg hx
  have hmobj : ∃ es c, w.heap[m]? = some (.map es c) := by obtain ⟨es, c, k, _⟩ := h1; exact ⟨es, c, k⟩
  have hnm : ∀ {v : Value} {xs : List Value} {g : Nat}, ORow w 3 v xs → v.ownBlock = some g → g ≠ m := fun hr hg e => by
    obtain ⟨_, cur, k⟩ := hr.block hg
    obtain ⟨es, c, k2⟩ := hmobj
    rw [e, k2] at k; cases k
  have key : ∀ v, (getL S (c0 : Int)).getD (.slice none 0 0) = v → (∀ g, v.ownBlock = some g → getL S (c0 : Int) = some v) → ORow w 3 v ((sub kw i br c0).map i64) → (∀ g, v.ownBlock = some g → base ≤ g ∧ vc.ownBlock ≠ some g ∧ g ≠ m) →
      ∀ w1 w2 v', Chg v.ownBlock.toList w w1 → ORow w1 3 v' ((sub kw i br c0).map i64 ++ [i64 x]) → (v'.ownBlock = v.ownBlock ∨ ∃ g, v'.ownBlock = some g ∧ w.heap.size ≤ g) → MapAt w2 m (fun n : Int => Value.int .u8 n) (putL S (c0 : Int) v') → Chg [m] w1 w2 → SubM w2 m base vc kw i (br ++ [x]) := by
    intro v hv hvs hrow hown w1 w2 v' hc1 hr1 hl1 hm2 hc2
    have hv'own : ∃ g, v'.ownBlock = some g := by
      obtain ⟨A, cap, e1, e2, e3, e4⟩ := hr1.slice
      obtain ⟨g, e5⟩ := e3 (by simp)
      exact ⟨g, by rw [e1, e5]; rfl⟩
    obtain ⟨gv', hgv'⟩ := hv'own
    have hgm : gv' ≠ m := by
      rcases hl1 with k | ⟨g, k1, k2⟩
      · rw [hgv'] at k; exact (hown gv' k.symm).2.2
      · have : gv' = g := by rw [hgv'] at k1; injection k1
        have := h1.lt
        omega
    refine ⟨_, hm2, fun c => ?_, ?_⟩
    · rw [getL_putL, subz_snoc, hc0]
      by_cases e : (c : Int) = (c0 : Int)
      · have e' : c = c0 := by omega
        subst e'
        rw [if_pos rfl, if_pos ⟨rfl, hx⟩, hs0]
        refine .inr ⟨v', gv', rfl, by simp, hgv', ?_, ?_, ?_⟩
        · rcases hl1 with k | ⟨g, k1, k2⟩
          · rw [hgv'] at k; exact (hown gv' k.symm).1
          · have : gv' = g := by rw [hgv'] at k1; injection k1
            omega
        · rcases hl1 with k | ⟨g, k1, k2⟩
          · rw [hgv'] at k; exact (hown gv' k.symm).2.1
          · intro e
            have := hvc gv' e
            have : gv' = g := by rw [hgv'] at k1; injection k1
            omega
        · rw [List.map_append]
          exact hr1.chg hc2 (fun g hg hin => hgm (by rw [hgv'] at hg; injection hg with hg; rw [hg]; simpa using hin))
      · rw [if_neg e, if_neg (fun g => e (by rw [g.1])), List.append_nil]
        rcases h2 c with g | ⟨u, g, a1, a2, a3, a4, a5, a6⟩
        · exact .inl g
        · refine .inr ⟨u, g, a1, a2, a3, a4, a5, ?_⟩
          refine (a6.chg hc1 (fun g2 hg2 hin => ?_)).chg hc2 (fun g2 hg2 hin => ?_)
          · have e2 : g2 = g := by rw [a3] at hg2; injection hg2 with hg2; exact hg2.symm
            subst e2
            have hvo : v.ownBlock = some g2 := by
              cases hb : v.ownBlock with
              | none => rw [hb] at hin; cases hin
              | some q => rw [hb] at hin; simp at hin; rw [hin]
            have := h3 c c0 u v g2 a1 (hvs g2 hvo) a3 hvo
            omega
          · have e2 : g2 = g := by rw [a3] at hg2; injection hg2 with hg2; exact hg2.symm
            exact hnm a6 a3 (by rw [← e2]; simpa using hin)
    · have hdis : ∀ c : Nat, (c : Int) ≠ (c0 : Int) → ∀ u, getL S (c : Int) = some u → u.ownBlock ≠ some gv' := fun c hcc u hu hug => by
        rcases hl1 with k | ⟨g, k1, k2⟩
        · rw [hgv'] at k
          have := h3 c c0 u v gv' hu (hvs gv' k.symm) hug k.symm
          omega
        · rcases h2 c with q | ⟨u2, g2, a1, a2, a3, a4, a5, a6⟩
          · rw [q.1] at hu; cases hu
          · have e1 : u2 = u := by rw [a1] at hu; injection hu
            subst e1
            have e2 : g2 = gv' := by rw [a3] at hug; injection hug
            have e3 : gv' = g := by rw [hgv'] at k1; injection k1
            have := (a6.block a3).1
            omega
      intro c c' u u' g hu hu' hg hg'
      rw [getL_putL] at hu hu'
      by_cases e : (c : Int) = (c0 : Int) <;> by_cases e' : (c' : Int) = (c0 : Int)
      · omega
      · rw [if_pos e] at hu
        rw [if_neg e'] at hu'
        injection hu with hu
        subst hu
        have : g = gv' := by rw [hgv'] at hg; injection hg with hg; exact hg.symm
        subst this
        exact absurd hg' (hdis c' e' u' hu')
      · rw [if_neg e] at hu
        rw [if_pos e'] at hu'
        injection hu' with hu'
        subst hu'
        have : g = gv' := by rw [hgv'] at hg'; injection hg' with hg'; exact hg'.symm
        subst this
        exact absurd hg (hdis c e u hu)
      · rw [if_neg e] at hu
        rw [if_neg e'] at hu'
        exact h3 c c' u u' g hu hu' hg hg'
  rcases h2 c0 with ⟨k1, k2⟩ | ⟨v, g, a1, a2, a3, a4, a5, a6⟩
  · rw [hs0] at k2
    refine ⟨S, .slice none 0 0, h1, by rw [k1]; rfl, by rw [k2]; exact ORow.nil _ _, (fun g hg => by cases hg), ?_⟩
    exact key (.slice none 0 0) (by rw [k1]; rfl) (fun g hg => by cases hg) (by rw [k2]; exact ORow.nil _ _) (fun g hg => by cases hg)
  · rw [hs0] at a6
    have ho : ∀ g2, v.ownBlock = some g2 → g2 = g := fun g2 hg2 => by rw [a3] at hg2; injection hg2 with hg2; exact hg2.symm
    refine ⟨S, v, h1, by rw [a1]; rfl, a6, fun g2 hg2 => by rw [ho g2 hg2]; exact ⟨a4, a5⟩, ?_⟩
    exact key v (by rw [a1]; rfl) (fun _ _ => a1) a6 (fun g2 hg2 => by rw [ho g2 hg2]; exact ⟨a4, a5, hnm a6 a3⟩)
/-- What the look-up of any sign tells. -/
theorem SubM.get {w : World} {m base : Nat} {vc : Value} {kw : List ByteArray} {i : Nat} {br : List Nat} (h : SubM w m base vc kw i br) (c : Nat) :
    ∃ (S : List (Int × Value)) (v : Value), MapAt w m (fun n : Int => Value.int .u8 n) S ∧ (getL S (c : Int)).getD (.slice none 0 0) = v ∧ ORow w 3 v ((subz kw i br c).map i64) ∧ ∀ g, v.ownBlock = some g → base ≤ g := by
  obtain ⟨S, h1, h2, h3⟩ := h
  rcases h2 c with ⟨k1, k2⟩ | ⟨v, g, a1, a2, a3, a4, a5, a6⟩
  · exact ⟨S, .slice none 0 0, h1, by rw [k1]; rfl, by rw [k2]; exact ORow.nil _ _, fun g hg => by cases hg⟩
  · exact ⟨S, v, h1, by rw [a1]; rfl, a6, fun g2 hg2 => by rw [a3] at hg2; injection hg2 with hg2; omega⟩
end Go.Proofs.Ytddcjmdcpkmnjab.Da
namespace Go.Proofs.Ytddcjmdcpkmnjab.Da
open Go.RowKit Go.Proofs.Ytddcjmdcpkmnjab.Gn
/-- The signs' row, the map of places; nothing old has turned. -/
def Mid (w wr : World) (kw : List ByteArray) (i : Nat) (br cs : List Nat) (vc : Value) : Prop :=
  ORow wr 5 vc (cs.map u8) ∧ (∀ g, vc.ownBlock = some g → w.heap.size ≤ g) ∧ SubM wr w.heap.size w.heap.size vc kw i br ∧ Chg [] w wr
theorem Mid.start (w : World) (kw : List ByteArray) (i : Nat) : Mid w (w.alloc (.map #[] 0)) kw i [] [] (.slice none 0 0) := ⟨ORow.nil _ _, (fun g h => by cases h), SubM.new w _ _ _ _, (Chg.refl [] w).alloc _⟩
theorem Mid.chg {w wr w' : World} {kw : List ByteArray} {i : Nat} {br cs : List Nat} {vc : Value} (h : Mid w wr kw i br cs vc) (hc : Chg [] wr w') : Mid w w' kw i br cs vc :=
  ⟨h.1.chg hc (fun _ _ => by simp), h.2.1, h.2.2.1.chg hc (by simp) (by simp), h.2.2.2.trans hc⟩
theorem orow_ne_map {w : World} {e : Nat} {v : Value} {xs : List Value} (h : ORow w e v xs) {m g : Nat} {S : List (Int × Value)} {enc : Int → Value} (hm : MapAt w m enc S) (hg : v.ownBlock = some g) : g ≠ m := fun e => by
  obtain ⟨_, cur, k⟩ := h.block hg
  obtain ⟨es, c, k2, _⟩ := hm
  rw [e, k2] at k; cases k
theorem toList_mem {o : Option Nat} {g : Nat} (h : g ∈ o.toList) : o = some g := by
  cases o with
  | none => cases h
  | some q => simp at h; rw [h]
theorem Mid.app {w wr w2 : World} {kw : List ByteArray} {i : Nat} {br cs : List Nat} {vc v2 : Value} {ch : Nat} {o : Obj} (h : Mid w wr kw i br cs vc) (hr : ORow w2 5 v2 (cs.map u8 ++ [u8 ch])) (hc : Chg vc.ownBlock.toList (wr.alloc o) w2) (ho : v2.ownBlock = vc.ownBlock ∨ v2.ownBlock = some (wr.alloc o).heap.size) :
    Mid w w2 kw i br (cs ++ [ch]) v2 := by
  obtain ⟨h1, h2, h3, h4⟩ := h
  have hsz := h4.size
  have hc2 : Chg vc.ownBlock.toList wr w2 := (((Chg.refl [] wr).alloc o).mono (by simp)).trans hc
  have hm : w.heap.size ∉ vc.ownBlock.toList := fun g => by
    obtain ⟨S, k, _⟩ := h3
    exact orow_ne_map h1 k (toList_mem g) rfl
  refine ⟨by rw [List.map_append]; exact hr, fun g hg => ?_, ?_, ?_⟩
  · rcases ho with k | k
    · rw [k] at hg; exact h2 g hg
    · rw [k, size_alloc] at hg; injection hg with hg; omega
  · have h5 := h3.chg hc2 hm (fun g hg => .inr (toList_mem hg))
    obtain ⟨S, a1, a2, a3⟩ := h5
    refine ⟨S, a1, fun c => ?_, a3⟩
    rcases a2 c with q | ⟨v, g, b1, b2, b3, b4, b5, b6⟩
    · exact .inl q
    · refine .inr ⟨v, g, b1, b2, b3, b4, fun e => ?_, b6⟩
      rcases ho with k | k
      · rw [k] at e; exact b5 e
      · rw [k, size_alloc] at e
        injection e with e
        obtain ⟨S', c1, c2, c3⟩ := h3
        rcases c2 c with q | ⟨v', g', d1, d2, d3, d4, d5, d6⟩
        · have := (b6.block b3).1
          -- the row stood already
          have hS : getL S (c : Int) = some v := b1
          rw [q.2] at b2; exact b2 rfl
        · have hlt := (d6.block d3).1
          have hold := (hc2.block wr.heap.size)
          by_cases ev : v = v'
          · subst ev
            have : g = g' := by rw [b3] at d3; injection d3
            omega
          · have hS2 : ∃ es c0, wr.heap[w.heap.size]? = some (.map es c0) ∧ es.toList.map kv = S'.map (fun p => ((Value.int .u8 p.1), p.2)) := by
              obtain ⟨es, c0, x1, x2⟩ := c1; exact ⟨es, c0, x1, x2⟩
            obtain ⟨es, c0, x1, x2⟩ := hS2
            obtain ⟨es2, c02, y1, y2⟩ := a1
            have hb := hc2.block w.heap.size (Array.getElem?_eq_some_iff.1 x1).1 hm
            rw [x1, y1] at hb
            injection hb with hb
            injection hb with hb1 hb2
            subst hb1
            have hSS : S.map (fun p => ((Value.int .u8 p.1), p.2)) = S'.map (fun p => ((Value.int .u8 p.1), p.2)) := by rw [← y2, ← x2]
            have : S = S' := by
              have inj : ∀ (A B : List (Int × Value)), A.map (fun p => ((Value.int .u8 p.1), p.2)) = B.map (fun p => ((Value.int .u8 p.1), p.2)) → A = B := by
                intro A
                induction A with
                | nil => intro B hB; cases B with
                  | nil => rfl
                  | cons _ _ => cases hB
                | cons a A ih => intro B hB; cases B with
                  | nil => cases hB
                  | cons b B =>
                    simp only [List.map_cons, List.cons.injEq, Prod.mk.injEq, Value.int.injEq, true_and] at hB
                    obtain ⟨⟨z1, z2⟩, z3⟩ := hB
                    rw [ih B z3]
                    congr 1
                    exact Prod.ext z1 z2
              exact inj S S' hSS
            rw [this, d1] at b1
            injection b1 with b1
            exact ev b1.symm
  · exact h4.above hc2 (fun g hg => .inr (h2 g (toList_mem hg)))
theorem Mid.place {w wr : World} {kw : List ByteArray} {i : Nat} {br cs : List Nat} {vc : Value} (h : Mid w wr kw i br cs vc) (x : Nat) (hx : chAt (wd kw x) i ≠ 0) :
    ∃ (S : List (Int × Value)) (v : Value), MapAt wr w.heap.size (fun n : Int => Value.int .u8 n) S ∧ (getL S (chAt (wd kw x) i : Int)).getD (.slice none 0 0) = v ∧ ORow wr 3 v ((sub kw i br (chAt (wd kw x) i)).map i64) ∧
      ∀ o w2 v', ORow w2 3 v' ((sub kw i br (chAt (wd kw x) i)).map i64 ++ [i64 x]) → Chg v.ownBlock.toList (wr.alloc o) w2 → (v'.ownBlock = v.ownBlock ∨ v'.ownBlock = some (wr.alloc o).heap.size) →
        MapAt w2 w.heap.size (fun n : Int => Value.int .u8 n) S ∧ ∀ w3, MapAt w3 w.heap.size (fun n : Int => Value.int .u8 n) (putL S (chAt (wd kw x) i : Int) v') → Chg [w.heap.size] w2 w3 → Mid w w3 kw i (br ++ [x]) cs vc := by
  obtain ⟨h1, h2, h3, h4⟩ := h
  have hsz := h4.size
  obtain ⟨S, v, a1, a2, a3, a4, a5⟩ := h3.at x hx hsz (fun g hg => (h1.block hg).1)
  refine ⟨S, v, a1, a2, a3, fun o w2 v' b1 b2 b3 => ?_⟩
  have hc2 : Chg v.ownBlock.toList wr w2 := (((Chg.refl [] wr).alloc o).mono (by simp)).trans b2
  have hm : w.heap.size ∉ v.ownBlock.toList := fun g => orow_ne_map a3 a1 (toList_mem g) rfl
  refine ⟨a1.chg hc2 hm, fun w3 c1 c2 => ⟨?_, h2, ?_, ?_⟩⟩
  · refine (h1.chg hc2 (fun g hg hin => ?_)).chg c2 (fun g hg hin => ?_)
    · exact (a4 g (toList_mem hin)).2 hg
    · exact orow_ne_map h1 a1 hg (by simpa using hin)
  · refine a5 w2 w3 v' hc2 b1 ?_ c1 c2
    rcases b3 with k | k
    · exact .inl k
    · exact .inr ⟨_, k, by rw [size_alloc]; omega⟩
  · refine (h4.above hc2 (fun g hg => .inr (a4 g (toList_mem hg)).1)).above c2 (fun g hg => .inr ?_)
    have : g = w.heap.size := by simpa using hg
    omega
theorem Mid.skip {w wr : World} {kw : List ByteArray} {i : Nat} {br cs : List Nat} {vc : Value} (h : Mid w wr kw i br cs vc) (x : Nat) (hx : chAt (wd kw x) i = 0) : Mid w wr kw i (br ++ [x]) cs vc := ⟨h.1, h.2.1, h.2.2.1.skip x hx, h.2.2.2⟩
end Go.Proofs.Ytddcjmdcpkmnjab.Da
namespace Go.Proofs.Ytddcjmdcpkmnjab.Da
open Go.RowKit Go.Proofs.YtddcjmdcpkmnjabW.PrintWords Go.Proofs.Ytddcjmdcpkmnjab.Gn
structure AddPre (w : World) (v b n : Nat) (B C : Nat → Int) (p k i : Nat) (br : List Nat) (gb cb gk ck gi ci : Nat) (U : List Nat) (kw : List ByteArray) (ids : List Int) : Prop where
  da : At w v b n B C
  brs : RowAt w gb i64 br
  kws : RowAt w gk Value.string kw
  idr : RowAt w gi (Value.int .i64) ids
  ne : gb ≠ b ∧ gk ≠ b ∧ gi ≠ b
  caps : br.length ≤ cb ∧ kw.length ≤ ck ∧ ids.length ≤ ci
  n1 : n ≤ 60000
  n2 : 41000 ≤ n
  inv : Inv n B C
  used : Used n C U
  cnt : U.length + cnt kw i br ≤ 1300
  brl : br.length ≤ 30
  pn : p < n
  pu : p = 0 ∨ 0 ≤ C p
  p0 : p = 0 → B 0 = 1 ∧ ∀ r, 1 ≤ r → r < n → C r < 0
  kids : ∀ r, 1 ≤ r → r < n → C r ≠ (p : Int)
  fit : Fit kw k i br
  i1 : i ≤ 2000
  kwl : kw.length ≤ 30
  idl : ids.length = kw.length
  ids2 : ∀ x ∈ ids, 0 ≤ x ∧ x ≤ 1100000
  sz : ∀ s ∈ kw, s.size ≤ 1000
  nz : ∀ s ∈ kw, ∀ j, j < s.size → (s.get! j).toNat ≠ 0
def AddPost (w w' : World) (v b n p k i : Nat) (B C : Nat → Int) (kw : List ByteArray) (ids : List Int) (br U : List Nat) : Prop :=
  ∃ B' C', At w' v b n B' C' ∧ Chg [b] w w' ∧ Added n p k i B C kw ids br U B' C'
theorem info5 : (Try.prog.info? 5).map (fun i => (i.zero, i.size, i.bytes)) = some (some (.int .u8 0), 1, 1) := by kernel_rfl
theorem info3 : (Try.prog.info? 3).map (fun i => (i.zero, i.size, i.bytes)) = some (some (.int .i64 0), 1, 8) := by kernel_rfl
theorem zeroIS (w : World) : (zeroValue 23).run Try.prog w = .ok (.slice none 0 0) w := by kernel_rfl
/-- Behind j rounds of the first loop. -/
def First (w wr : World) (kw : List ByteArray) (i : Nat) (br : List Nat) (vc : Value) : Prop := Mid w wr kw i br (chsOf kw i br) vc
theorem wd_at (kw : List ByteArray) {x : Nat} (h : x < kw.length) : wd kw x = kw[x] := by
  unfold wd
  rw [List.getD_eq_getElem?_getD, List.getElem?_eq_getElem h]; rfl
theorem cell_box (w : World) (x : Value) (t : TypeId) : (w.alloc (.cells #[x] t)).cell? ⟨w.heap.size, 0, none⟩ = some x := by
  have := heap_alloc_new w (.cells #[x] t)
  unfold World.cell?
  rw [show (w.alloc (.cells #[x] t)).heap[(⟨w.heap.size, 0, none⟩ : Addr).block]? = _ from this]
  rfl
theorem last_or (cs : List Nat) : cs = [] ∨ ∃ ini l, cs = ini ++ [l] := by
  rcases List.eq_nil_or_concat cs with h | ⟨ini, l, h⟩
  · exact .inl h
  · exact .inr ⟨ini, l, by simpa using h⟩
theorem addCh_nil (c : Nat) : addCh [] c = [] ++ [c] := rfl
theorem addCh_eq (ini : List Nat) {l c : Nat} (h : l = c) : addCh (ini ++ [l]) c = ini ++ [l] := by simp [addCh, h]
theorem addCh_ne (ini : List Nat) {l c : Nat} (h : l ≠ c) : addCh (ini ++ [l]) c = ini ++ [l] ++ [c] := by simp [addCh, h]
set_option maxHeartbeats 2000000 in
set_option maxRecDepth 100000 in
theorem add_calls (kw : List ByteArray) (ids : List Int) : ∀ (k : Nat) (w : World) (v b n : Nat) (B C : Nat → Int) (p i : Nat) (br : List Nat) (gb cb gk ck gi ci : Nat) (U : List Nat), AddPre w v b n B C p k i br gb cb gk ck gi ci U kw ids →
    Calls Try.prog 46 #[.pointer (some ⟨v, 0, none⟩), .int .i64 p, .int .i64 i, .slice (some ⟨gb, 0, none⟩) br.length cb, .slice (some ⟨gk, 0, none⟩) kw.length ck, .slice (some ⟨gi, 0, none⟩) ids.length ci] w fun e w' => e = .returned (.tuple #[]) ∧ AddPost w w' v b n p k i B C kw ids br U := by
  intro k
  induction k with
  | zero => intro w v b n B C p i br gb cb gk ck gi ci U h; exact h.fit.elim
  | succ k ih =>
    intro w v b n B C p i br gb cb gk ck gi ci U h
    have IH := Aside0.mk ih
    clear ih
    have H := Aside0.mk h
    have hfit := h.fit
    unfold Fit at hfit
    have HF := Aside0.mk hfit
    have hi1 := h.i1
    have hbl := h.brl
    have hkl := h.kwl
    have hcb := h.caps.1
    have hck := h.caps.2.1
    have HM := Aside0.mk (show First w (w.alloc (.map #[] 0)) kw i [] (.slice none 0 0) from Mid.start w kw i)
    clear h hfit
    have hmm := @run_makeMap Try.prog
    go_enter Try.func46, Try.ntmps46
    go_wp2_with fail
    clear hmm
    go_loopw [12, 25] (fun v12 v25 wr => ∃ j : Nat, v25 = .int .i64 j ∧ Aside0 (j ≤ br.length) ∧ Aside0 (First w wr kw i (br.take j) v12)) (fun _ v25 _ => br.length - (intOf v25).toNat)
    case atStart => exact ⟨0, rfl, ⟨Nat.zero_le _⟩, HM⟩
    case round =>
      clear HM
      obtain ⟨j, rfl, HJ, HFI⟩ := hrel
      by_cases hlt : j < br.length
      · obtain ⟨cs, hcs⟩ : ∃ cs, cs = chsOf kw i (br.take j) := ⟨_, rfl⟩
        have hm0 := HFI.out
        unfold First at hm0
        rw [← hcs] at hm0
        have hcg := hm0.2.2.2
        have hcl := length_chsOf kw i (br.take j)
        rw [← hcs, List.length_take] at hcl
        have hcl2 : cs.length ≤ 30 := by omega
        obtain ⟨x, hx⟩ : ∃ x, x = br[j] := ⟨_, rfl⟩
        have hxm : x ∈ br := by rw [hx]; exact List.getElem_mem _
        have hxk : x < kw.length := (HF.out.2.1 x hxm).1
        have c1 : wr.cell? ⟨gb, j, none⟩ = some (.int .i64 x) := by
          have := (H.out.brs.chg hcg (by simp)) j hlt
          rw [this, ← hx]; rfl
        obtain ⟨s, hs⟩ : ∃ s, s = wd kw x := ⟨_, rfl⟩
        have c2 : wr.cell? ⟨gk, x, none⟩ = some (.string s) := by
          have := (H.out.kws.chg hcg (by simp)) x hxk
          rw [this, hs, wd_at kw hxk]
        have hsm : s ∈ kw := by rw [hs, wd_at kw hxk]; exact List.getElem_mem _
        have hsz : s.size ≤ 1000 := H.out.sz s hsm
        have HNZ := Aside0.mk (H.out.nz s hsm)
        have k1 : decide ((0:Int) ≤ (j:Int)) = true := decide_eq_true (by omega)
        have k2 : decide ((j:Int) < (br.length:Int)) = true := decide_eq_true (by omega)
        have k3 : decide ((0:Int) ≤ (x:Int)) = true := decide_eq_true (by omega)
        have k4 : decide ((x:Int) < (kw.length:Int)) = true := decide_eq_true (by omega)
        have HT := Aside0.mk (show br.take (j + 1) = br.take j ++ [x] by rw [List.take_succ_eq_append_getElem hlt, ← hx])
        have HCE := Aside0.mk (show chsOf kw i (br.take (j + 1)) = addCh cs (chAt s i) by rw [HT.out, chsOf_append, ← hcs, ← hs])
        have HS := Aside0.mk hs
        clear hcs hx hs hcg hcl hxm HFI hsm
        by_cases hsi : s.size ≤ i
        · have HC0 : Aside0 (0 = chAt s i) := ⟨by unfold chAt; rw [if_neg (by omega)]⟩
          rcases last_or cs with rfl | ⟨ini, l, rfl⟩
          · skip
            have e9 : (List.map u8 ([] : List Nat)).length = 0 := rfl
            obtain ⟨A, cp, e, hl1, hl2, hl3⟩ := hm0.1.slice
            rw [e9] at e hl1
            subst e
            have HM0 := Aside0.mk hm0
            clear hm0 hl2 hl3 hcl2 e9
            go_wp2_with (first | (refine wpList_toBytes rfl _ _ _ _ rfl s rfl Try.underlying9 Try.underlying80 Try.underlying5 ?_; intro w1 cap1 hc1 hs1 hb1 hcap1; have HM1 := Aside0.mk (HM0.out.chg hc1); clear hc1 hb1 hs1 HM0) | (at_builtin; refine wpList_append1 rfl _ _ 80 rfl 5 (.int .u8 0) 1 Try.underlying80 info5 rfl _ (([] : List Nat).map u8) rfl (HM1.out.1.chg ((Chg.refl [] w1).alloc _) (fun _ _ => by simp)) w1.heap.size (u8 0) rfl (cell_box w1 _ _) rfl ?s1 ?s2 ?_; (case s1 => (simp <;> omega)); (case s2 => (simp <;> (unfold maxLen; omega))); intro v2 w2 hr2 hc2 ho2; have HM2 := Aside0.mk (HM1.out.app hr2 hc2 ho2); clear hr2 hc2 ho2 HM1))
            go_roundw
            case rel =>
              refine ⟨j + 1, by go_num, ⟨by omega⟩, ⟨?_⟩⟩
              unfold First
              rw [HCE.out, ← HC0.out, addCh_nil]
              rw [HT.out]; exact HM2.out.skip x (by rw [← HS.out]; exact HC0.out.symm)
            case measure => simp [intOf]; omega
          · by_cases hlc : l = 0
            · skip
              have e9 : (List.map u8 (ini ++ [l])).length = ini.length + 1 := by simp
              obtain ⟨A, cp, e, hl1, hl2, hl3⟩ := hm0.1.slice
              rw [e9] at e hl1
              obtain ⟨g, hg⟩ := hl2 (by simp)
              subst hg
              subst e
              have c3 : wr.cell? ⟨g, ini.length, none⟩ = some (.int .u8 l) := by
                have := hm0.1.cell ini.length (by simp)
                simpa [u8] using this
              have hil : ini.length ≤ 30 := by simp at hcl2; omega
              have q1 : (((ini.length : Int) + 1) == 0) = false := beq_eq_false_iff_ne.2 (by omega)
              have q2 : ((ini.length + 1) == 0) = false := beq_eq_false_iff_ne.2 (by omega)
              have q3 : decide ((0:Int) ≤ (ini.length:Int)) = true := decide_eq_true (by omega)
              have q4 : ((l : Int) != 0) = false := bne_eq_false_iff_eq.2 (by omega)
              have q5 : (l != 0) = false := bne_eq_false_iff_eq.2 (by omega)
              have HM0 := Aside0.mk hm0
              clear hm0 hl2 hl3 hcl2 e9
              go_wp2_with (first | (refine wpList_toBytes rfl _ _ _ _ rfl s rfl Try.underlying9 Try.underlying80 Try.underlying5 ?_; intro w1 cap1 hc1 hs1 hb1 hcap1; have d3 := (World.cell?_of_block (w := wr) (hc1.block g (World.block_lt_of_cell? wr _ c3) (by simp))).trans c3; have HM1 := Aside0.mk (HM0.out.chg hc1); clear hc1 hb1 hs1 HM0))
              go_roundw
              case rel =>
                refine ⟨j + 1, by go_num, ⟨by omega⟩, ⟨?_⟩⟩
                unfold First
                rw [HCE.out, ← HC0.out, addCh_eq _ hlc]
                rw [HT.out]; exact HM1.out.skip x (by rw [← HS.out]; exact HC0.out.symm)
              case measure => simp [intOf]; omega
            · skip
              have e9 : (List.map u8 (ini ++ [l])).length = ini.length + 1 := by simp
              obtain ⟨A, cp, e, hl1, hl2, hl3⟩ := hm0.1.slice
              rw [e9] at e hl1
              obtain ⟨g, hg⟩ := hl2 (by simp)
              subst hg
              subst e
              have c3 : wr.cell? ⟨g, ini.length, none⟩ = some (.int .u8 l) := by
                have := hm0.1.cell ini.length (by simp)
                simpa [u8] using this
              have hil : ini.length ≤ 30 := by simp at hcl2; omega
              have q1 : (((ini.length : Int) + 1) == 0) = false := beq_eq_false_iff_ne.2 (by omega)
              have q2 : ((ini.length + 1) == 0) = false := beq_eq_false_iff_ne.2 (by omega)
              have q3 : decide ((0:Int) ≤ (ini.length:Int)) = true := decide_eq_true (by omega)
              have q4 : ((l : Int) != 0) = true := bne_iff_ne.2 (by omega)
              have q5 : (l != 0) = true := bne_iff_ne.2 (by omega)
              have HM0 := Aside0.mk hm0
              clear hm0 hl2 hl3 hcl2 e9
              go_wp2_with (first | (refine wpList_toBytes rfl _ _ _ _ rfl s rfl Try.underlying9 Try.underlying80 Try.underlying5 ?_; intro w1 cap1 hc1 hs1 hb1 hcap1; have d3 := (World.cell?_of_block (w := wr) (hc1.block g (World.block_lt_of_cell? wr _ c3) (by simp))).trans c3; have HM1 := Aside0.mk (HM0.out.chg hc1); clear hc1 hb1 hs1 HM0) | (at_builtin; refine wpList_append1 rfl _ _ 80 rfl 5 (.int .u8 0) 1 Try.underlying80 info5 rfl _ ((ini ++ [l]).map u8) rfl (HM1.out.1.chg ((Chg.refl [] w1).alloc _) (fun _ _ => by simp)) w1.heap.size (u8 0) rfl (cell_box w1 _ _) rfl ?s1 ?s2 ?_; (case s1 => (simp <;> omega)); (case s2 => (simp <;> (unfold maxLen; omega))); intro v2 w2 hr2 hc2 ho2; have HM2 := Aside0.mk (HM1.out.app hr2 hc2 ho2); clear hr2 hc2 ho2 HM1))
              go_roundw
              case rel =>
                refine ⟨j + 1, by go_num, ⟨by omega⟩, ⟨?_⟩⟩
                unfold First
                rw [HCE.out, ← HC0.out, addCh_ne _ hlc]
                rw [HT.out]; exact HM2.out.skip x (by rw [← HS.out]; exact HC0.out.symm)
              case measure => simp [intOf]; omega
        · have hlt2 : i < s.size := by omega
          obtain ⟨c0, hc0⟩ : ∃ c0, c0 = (s.get! i).toNat := ⟨_, rfl⟩
          have hcn : c0 ≠ 0 := by rw [hc0]; exact HNZ.out i hlt2
          have h255 : c0 ≤ 255 := by rw [hc0]; have := (s.get! i).toNat_lt; omega
          have HCA : Aside0 (c0 = chAt s i) := ⟨by unfold chAt; rw [if_pos hlt2]; exact hc0⟩
          have HC0 := Aside0.mk hc0
          have HCN : Aside0 (chAt (wd kw x) i ≠ 0) := ⟨by rw [← HS.out, ← HCA.out]; exact hcn⟩
          clear hc0
          rcases last_or cs with rfl | ⟨ini, l, rfl⟩
          · skip
            have e9 : (List.map u8 ([] : List Nat)).length = 0 := rfl
            obtain ⟨A, cp, e, hl1, hl2, hl3⟩ := hm0.1.slice
            rw [e9] at e hl1
            subst e
            have r1 : (((c0 : Nat) : Int) != 0) = true := bne_iff_ne.2 (by omega)
            have r2 : (c0 != 0) = true := bne_iff_ne.2 (by omega)
            have HM0 := Aside0.mk hm0
            clear hm0 hl2 hl3 hcl2 e9
            go_wp2_with (first | (refine wpList_toBytes rfl _ _ _ _ rfl s rfl Try.underlying9 Try.underlying80 Try.underlying5 ?_; intro w1 cap1 hc1 hs1 hb1 hcap1; have d4 := hb1 i hlt2; rw [← HC0.out] at d4; have HM1 := Aside0.mk (HM0.out.chg hc1); clear hc1 hb1 hs1 HM0) | (at_builtin; refine wpList_append1 rfl _ _ 80 rfl 5 (.int .u8 0) 1 Try.underlying80 info5 rfl _ (([] : List Nat).map u8) rfl (HM1.out.1.chg ((Chg.refl [] w1).alloc _) (fun _ _ => by simp)) w1.heap.size (u8 c0) rfl (cell_box w1 _ _) rfl ?s1 ?s2 ?_; (case s1 => (simp <;> omega)); (case s2 => (simp <;> (unfold maxLen; omega))); intro v2 w2 hr2 hc2 ho2; have HM2 := Aside0.mk (HM1.out.app hr2 hc2 ho2); clear hr2 hc2 ho2 HM1) | (at_lookup; have hpl := HM2.out.place x HCN.out; rw [← HS.out, ← HCA.out] at hpl; obtain ⟨S, pv, p1, p2, p3, p4⟩ := hpl; refine wpList_lookup rfl _ _ _ false rfl rfl (c0 : Int) rfl p1 (keyInt Try.underlying5) Try.underlying81 (.slice none 0 0) zeroIS ?_; rw [if_neg (by decide), p2]; have P3 := Aside0.mk p3; have P4 := Aside0.mk p4; clear p1 p2 p3 p4) | (at_builtin; refine wpList_append1 rfl _ _ 23 rfl 3 (.int .i64 0) 8 Try.underlying23 info3 rfl _ _ rfl (P3.out.chg ((Chg.refl [] w2).alloc _) (fun _ _ => by simp)) w2.heap.size (i64 x) rfl (cell_box w2 _ _) rfl ?s1 ?s2 ?_; (case s1 => rw [List.length_map]; have := List.length_filter_le (fun x => decide (chAt (wd kw x) i = c0)) (br.take j); have := List.length_take_le j br; unfold sub; omega); (case s2 => rw [List.length_map]; have := List.length_filter_le (fun x => decide (chAt (wd kw x) i = c0)) (br.take j); have := List.length_take_le j br; unfold sub maxLen; omega); intro v3 w3 hr3 hc3 ho3; obtain ⟨p5, p6⟩ := P4.out _ w3 v3 hr3 hc3 ho3; have P6 := Aside0.mk p6; have P5 := Aside0.mk p5; clear hr3 hc3 ho3 p5 p6) | (at_mapUpdate; refine wpList_mapUpdate rfl _ _ _ _ rfl rfl (c0 : Int) rfl _ rfl P5.out (keyInt Try.underlying5) Try.underlying81 ?_; intro w4 h41 h42 h43; have HM4 := Aside0.mk (P6.out w4 h41 h42); clear h41 h42 h43 HM2))
            go_roundw
            case rel =>
              refine ⟨j + 1, by go_num, ⟨by omega⟩, ⟨?_⟩⟩
              unfold First
              rw [HCE.out, ← HCA.out, addCh_nil]
              rw [HT.out]; exact HM4.out
            case measure => simp [intOf]; omega
          · by_cases hlc : l = c0
            · skip
              have e9 : (List.map u8 (ini ++ [l])).length = ini.length + 1 := by simp
              obtain ⟨A, cp, e, hl1, hl2, hl3⟩ := hm0.1.slice
              rw [e9] at e hl1
              obtain ⟨g, hg⟩ := hl2 (by simp)
              subst hg
              subst e
              have c3 : wr.cell? ⟨g, ini.length, none⟩ = some (.int .u8 l) := by
                have := hm0.1.cell ini.length (by simp)
                simpa [u8] using this
              have hil : ini.length ≤ 30 := by simp at hcl2; omega
              have q1 : (((ini.length : Int) + 1) == 0) = false := beq_eq_false_iff_ne.2 (by omega)
              have q2 : ((ini.length + 1) == 0) = false := beq_eq_false_iff_ne.2 (by omega)
              have q3 : decide ((0:Int) ≤ (ini.length:Int)) = true := decide_eq_true (by omega)
              have q4 : ((l : Int) != (c0 : Int)) = false := bne_eq_false_iff_eq.2 (by omega)
              have q5 : (l != c0) = false := bne_eq_false_iff_eq.2 (by omega)
              have r1 : (((c0 : Nat) : Int) != 0) = true := bne_iff_ne.2 (by omega)
              have r2 : (c0 != 0) = true := bne_iff_ne.2 (by omega)
              have HM0 := Aside0.mk hm0
              clear hm0 hl2 hl3 hcl2 e9
              go_wp2_with (first | (refine wpList_toBytes rfl _ _ _ _ rfl s rfl Try.underlying9 Try.underlying80 Try.underlying5 ?_; intro w1 cap1 hc1 hs1 hb1 hcap1; have d3 := (World.cell?_of_block (w := wr) (hc1.block g (World.block_lt_of_cell? wr _ c3) (by simp))).trans c3; have d4 := hb1 i hlt2; rw [← HC0.out] at d4; have HM1 := Aside0.mk (HM0.out.chg hc1); clear hc1 hb1 hs1 HM0) | (at_lookup; have hpl := HM1.out.place x HCN.out; rw [← HS.out, ← HCA.out] at hpl; obtain ⟨S, pv, p1, p2, p3, p4⟩ := hpl; refine wpList_lookup rfl _ _ _ false rfl rfl (c0 : Int) rfl p1 (keyInt Try.underlying5) Try.underlying81 (.slice none 0 0) zeroIS ?_; rw [if_neg (by decide), p2]; have P3 := Aside0.mk p3; have P4 := Aside0.mk p4; clear p1 p2 p3 p4) | (at_builtin; refine wpList_append1 rfl _ _ 23 rfl 3 (.int .i64 0) 8 Try.underlying23 info3 rfl _ _ rfl (P3.out.chg ((Chg.refl [] w1).alloc _) (fun _ _ => by simp)) w1.heap.size (i64 x) rfl (cell_box w1 _ _) rfl ?s1 ?s2 ?_; (case s1 => rw [List.length_map]; have := List.length_filter_le (fun x => decide (chAt (wd kw x) i = c0)) (br.take j); have := List.length_take_le j br; unfold sub; omega); (case s2 => rw [List.length_map]; have := List.length_filter_le (fun x => decide (chAt (wd kw x) i = c0)) (br.take j); have := List.length_take_le j br; unfold sub maxLen; omega); intro v3 w3 hr3 hc3 ho3; obtain ⟨p5, p6⟩ := P4.out _ w3 v3 hr3 hc3 ho3; have P6 := Aside0.mk p6; have P5 := Aside0.mk p5; clear hr3 hc3 ho3 p5 p6) | (at_mapUpdate; refine wpList_mapUpdate rfl _ _ _ _ rfl rfl (c0 : Int) rfl _ rfl P5.out (keyInt Try.underlying5) Try.underlying81 ?_; intro w4 h41 h42 h43; have HM4 := Aside0.mk (P6.out w4 h41 h42); clear h41 h42 h43 HM1))
              go_roundw
              case rel =>
                refine ⟨j + 1, by go_num, ⟨by omega⟩, ⟨?_⟩⟩
                unfold First
                rw [HCE.out, ← HCA.out, addCh_eq _ hlc]
                rw [HT.out]; exact HM4.out
              case measure => simp [intOf]; omega
            · skip
              have e9 : (List.map u8 (ini ++ [l])).length = ini.length + 1 := by simp
              obtain ⟨A, cp, e, hl1, hl2, hl3⟩ := hm0.1.slice
              rw [e9] at e hl1
              obtain ⟨g, hg⟩ := hl2 (by simp)
              subst hg
              subst e
              have c3 : wr.cell? ⟨g, ini.length, none⟩ = some (.int .u8 l) := by
                have := hm0.1.cell ini.length (by simp)
                simpa [u8] using this
              have hil : ini.length ≤ 30 := by simp at hcl2; omega
              have q1 : (((ini.length : Int) + 1) == 0) = false := beq_eq_false_iff_ne.2 (by omega)
              have q2 : ((ini.length + 1) == 0) = false := beq_eq_false_iff_ne.2 (by omega)
              have q3 : decide ((0:Int) ≤ (ini.length:Int)) = true := decide_eq_true (by omega)
              have q4 : ((l : Int) != (c0 : Int)) = true := bne_iff_ne.2 (by omega)
              have q5 : (l != c0) = true := bne_iff_ne.2 (by omega)
              have r1 : (((c0 : Nat) : Int) != 0) = true := bne_iff_ne.2 (by omega)
              have r2 : (c0 != 0) = true := bne_iff_ne.2 (by omega)
              have HM0 := Aside0.mk hm0
              clear hm0 hl2 hl3 hcl2 e9
              go_wp2_with (first | (refine wpList_toBytes rfl _ _ _ _ rfl s rfl Try.underlying9 Try.underlying80 Try.underlying5 ?_; intro w1 cap1 hc1 hs1 hb1 hcap1; have d3 := (World.cell?_of_block (w := wr) (hc1.block g (World.block_lt_of_cell? wr _ c3) (by simp))).trans c3; have d4 := hb1 i hlt2; rw [← HC0.out] at d4; have HM1 := Aside0.mk (HM0.out.chg hc1); clear hc1 hb1 hs1 HM0) | (at_builtin; refine wpList_append1 rfl _ _ 80 rfl 5 (.int .u8 0) 1 Try.underlying80 info5 rfl _ ((ini ++ [l]).map u8) rfl (HM1.out.1.chg ((Chg.refl [] w1).alloc _) (fun _ _ => by simp)) w1.heap.size (u8 c0) rfl (cell_box w1 _ _) rfl ?s1 ?s2 ?_; (case s1 => (simp <;> omega)); (case s2 => (simp <;> (unfold maxLen; omega))); intro v2 w2 hr2 hc2 ho2; have HM2 := Aside0.mk (HM1.out.app hr2 hc2 ho2); clear hr2 hc2 ho2 HM1) | (at_lookup; have hpl := HM2.out.place x HCN.out; rw [← HS.out, ← HCA.out] at hpl; obtain ⟨S, pv, p1, p2, p3, p4⟩ := hpl; refine wpList_lookup rfl _ _ _ false rfl rfl (c0 : Int) rfl p1 (keyInt Try.underlying5) Try.underlying81 (.slice none 0 0) zeroIS ?_; rw [if_neg (by decide), p2]; have P3 := Aside0.mk p3; have P4 := Aside0.mk p4; clear p1 p2 p3 p4) | (at_builtin; refine wpList_append1 rfl _ _ 23 rfl 3 (.int .i64 0) 8 Try.underlying23 info3 rfl _ _ rfl (P3.out.chg ((Chg.refl [] w2).alloc _) (fun _ _ => by simp)) w2.heap.size (i64 x) rfl (cell_box w2 _ _) rfl ?s1 ?s2 ?_; (case s1 => rw [List.length_map]; have := List.length_filter_le (fun x => decide (chAt (wd kw x) i = c0)) (br.take j); have := List.length_take_le j br; unfold sub; omega); (case s2 => rw [List.length_map]; have := List.length_filter_le (fun x => decide (chAt (wd kw x) i = c0)) (br.take j); have := List.length_take_le j br; unfold sub maxLen; omega); intro v3 w3 hr3 hc3 ho3; obtain ⟨p5, p6⟩ := P4.out _ w3 v3 hr3 hc3 ho3; have P6 := Aside0.mk p6; have P5 := Aside0.mk p5; clear hr3 hc3 ho3 p5 p6) | (at_mapUpdate; refine wpList_mapUpdate rfl _ _ _ _ rfl rfl (c0 : Int) rfl _ rfl P5.out (keyInt Try.underlying5) Try.underlying81 ?_; intro w4 h41 h42 h43; have HM4 := Aside0.mk (P6.out w4 h41 h42); clear h41 h42 h43 HM2))
              go_roundw
              case rel =>
                refine ⟨j + 1, by go_num, ⟨by omega⟩, ⟨?_⟩⟩
                unfold First
                rw [HCE.out, ← HCA.out, addCh_ne _ hlc]
                rw [HT.out]; exact HM4.out
              case measure => simp [intOf]; omega
      · have hj : j = br.length := by have := HJ.out; omega
        have hfi := HFI.out
        rw [hj, List.take_length] at hfi
        unfold First at hfi
        have z1 : decide (j < br.length) = false := decide_eq_false hlt
        have z2 : decide ((j:Int) < (br.length:Int)) = false := decide_eq_false (by omega)
        clear hj HJ HFI
        obtain ⟨chs, hchs⟩ : ∃ chs, chs = chsOf kw i br := ⟨_, rfl⟩
        rw [← hchs] at hfi
        have hne : chs ≠ [] := by rw [hchs]; exact chsOf_ne_nil kw i HF.out.1
        have hcl : chs.length ≤ br.length := by rw [hchs]; exact length_chsOf kw i br
        obtain ⟨rep, chs', hrc⟩ : ∃ rep chs', chs = rep :: chs' := by
          cases chs with
          | nil => exact absurd rfl hne
          | cons r t => exact ⟨r, t, rfl⟩
        obtain ⟨A, cp, e, hl1, hl2, hl3⟩ := hfi.1.slice
        rw [List.length_map] at e hl1
        obtain ⟨g, hg⟩ := hl2 (by rw [hrc]; simp)
        subst hg
        subst e
        have hgw : w.heap.size ≤ g := hfi.2.1 g rfl
        have hcg := hfi.2.2.2
        have hbl2 := H.out.da.lt
        have hch : Chs wr g chs := RowAt.of_row hfi.1
        have h255 : ∀ c ∈ chs, c ≤ 255 := fun c hc => by
          rw [hchs] at hc
          obtain ⟨x, _, rfl⟩ := (mem_chsOf kw i br c).1 hc
          exact chAt_le _ _
        have hnd : chs.Nodup := by rw [hchs]; exact HF.out.2.2.1
        have hul : U.length * chs.length ≤ 1300 * 30 := Nat.mul_le_mul (by have := H.out.cnt; omega) (by omega)
        obtain ⟨f, kk, hsk⟩ := H.out.inv.seek H.out.used rep chs (h255 rep (by rw [hrc]; simp)) h255 (by have := H.out.n2; have := H.out.cnt; omega) (by rw [hrc]; simp)
        have hbase : ∃ base : Nat, (p = 0 → B 0 = (base : Int) ∧ 1 ≤ base ∧ ∀ c ∈ chs, base + c < n ∧ C (base + c) < 0) ∧ (p ≠ 0 → f kk = base + rep) ∧ 1 ≤ base ∧ base < 60000 := by
          have hn1 := H.out.n1
          have hn2 := H.out.n2
          by_cases hp0 : p = 0
          · obtain ⟨z1, z2⟩ := H.out.p0 hp0
            refine ⟨1, fun _ => ⟨z1, Nat.le_refl _, fun c hc => ?_⟩, fun q => absurd hp0 q, Nat.le_refl _, by omega⟩
            have := h255 c hc
            exact ⟨by omega, z2 _ (by omega) (by omega)⟩
          · have hlo := hsk.lo
            have hfit := (hsk.fits rep (by rw [hrc]; simp)).1
            exact ⟨f kk - rep, fun q => absurd q hp0, fun _ => by omega, by omega, by omega⟩
        obtain ⟨base, hb0, hb1, hb2, hb3⟩ := hbase
        have HSK := Aside0.mk (seek_calls wr v b n B C p g cp rep chs f kk U (H.out.da.chg hcg (by simp) (by simp)) hch (by omega) (by omega) H.out.pn H.out.n1 H.out.inv H.out.used H.out.pu hsk (by rw [hrc]; rfl) hnd h255 (by have := H.out.n2; have := H.out.cnt; omega) hl1 base hb0 hb1)
        have HCH := Aside0.mk hch
        have HFI := Aside0.mk hfi
        have HCHS := Aside0.mk hchs
        have H255 := Aside0.mk h255
        have HND := Aside0.mk hnd
        have hc30 : chs.length ≤ 30 := by omega
        clear hch hfi hchs h255 hnd hsk hb0 hb1 hl2 hl3 hul hne hrc hcg hl1 hlt
        go_wp2_with (go_at_call 50; refine HSK.out.mono ?_; rintro e w2 ⟨rfl, B1, C1, ha2, hc2, hm2⟩; have HA2 := Aside0.mk ha2; have HC2 := Aside0.mk hc2; have HM2 := Aside0.mk hm2; clear ha2 hc2 hm2 HSK)
        clear z1 z2
        have hgs := Aside0.mk (show Grow n p base k i B C C1 kw ids br U 0 B1 C1 ((chsOf kw i br).map (base + ·) ++ U) from Grow.start (by rw [← HCHS.out]; exact HM2.out) H.out.inv H.out.used hb2 H.out.pu H.out.pn H.out.kids)
        have hsm2 := Aside0.mk (HFI.out.2.2.1.chg HC2.out (by have := hbl2.2; simp; omega) (fun q hq => .inl (by rw [List.mem_singleton.1 hq]; omega)))
        have hch2 := Aside0.mk (HCH.out.chg HC2.out (by simp; omega))
        have hc20 := Aside0.mk (((HFI.out.2.2.2).mono (T := [b]) (by simp)).trans HC2.out)
        have hw2 : w.heap.size ≤ w2.heap.size := hc20.out.size
        clear HFI HCH
        go_loopw [77] (fun v77 wr => ∃ (j : Nat) (Bj Cj : Nat → Int) (Uj : List Nat), v77 = .int .i64 j ∧ Aside0 (j ≤ chs.length) ∧ Aside0 (At wr v b n Bj Cj) ∧ Aside0 (Grow n p base k i B C C1 kw ids br U j Bj Cj Uj) ∧ Aside0 (Chg [b] w2 wr)) (fun v77 _ => chs.length - (intOf v77).toNat)
        case atStart => exact ⟨0, _, _, _, rfl, ⟨Nat.zero_le _⟩, HA2, hgs, ⟨Chg.refl _ _⟩⟩
        case round =>
          clear HA2 hgs
          obtain ⟨j, Bj, Cj, Uj, rfl, HJ, HAj, HGj, HCj⟩ := hrel
          by_cases hlt : j < chs.length
          · obtain ⟨c, hc⟩ : ∃ c, c = chs[j] := ⟨_, rfl⟩
            have hcm : c ∈ chs := by rw [hc]; exact List.getElem_mem _
            have hc255 : c ≤ 255 := H255.out c hcm
            have hkid := HGj.out.kids c (by rw [← HCHS.out]; exact hcm)
            have hq1 : base + c < n := hkid.1
            have hn1 := H.out.n1
            have hpn := H.out.pn
            have d1 := (hch2.out.chg HCj.out (by simp; omega)) j hlt
            rw [← hc] at d1
            have d2 := HAj.out.cell
            have d3 := HAj.out.base p hpn
            rw [HGj.out.bp] at d3
            have hcw := hc20.out.trans HCj.out
            have hblt := hbl2.2
            obtain ⟨S, sv, s1, s2, s3, s4⟩ := (hsm2.out.chg HCj.out (by simp; omega) (fun q hq => .inl (by rw [List.mem_singleton.1 hq]; omega))).get c
            obtain ⟨SA, scp, se, sl1, sl2, sl3⟩ := s3.slice
            rw [List.length_map] at se sl1
            have k1 : decide ((0:Int) ≤ (j:Int)) = true := decide_eq_true (by omega)
            have k2 : decide ((j:Int) < (chs.length:Int)) = true := decide_eq_true (by omega)
            have k3 : decide (j < chs.length) = true := decide_eq_true hlt
            have k4 : decide ((0:Int) ≤ (p:Int)) = true := decide_eq_true (by omega)
            have k5 : decide ((p:Int) < (n:Int)) = true := decide_eq_true (by omega)
            have HS1 := Aside0.mk s1
            have HS2 := Aside0.mk s2
            have HCC : Aside0 (c = (chsOf kw i br)[j]'(by rw [← HCHS.out]; exact hlt)) := ⟨by rw [hc]; congr 1; exact HCHS.out⟩
            have HU1 : Aside0 (∀ c ∈ chsOf kw i br, 0 ≤ C1 (base + c)) := ⟨fun c hc => by have := (HM2.out.new c (by rw [HCHS.out]; exact hc)).2.2; omega⟩
            have HCM := Aside0.mk hcm
            have HKID := Aside0.mk hkid
            have HJ1 : Aside0 (j < (chsOf kw i br).length) := ⟨by rw [← HCHS.out]; exact hlt⟩
            have HCW := Aside0.mk hcw
            clear hc hcm hkid s1 s2 hcw
            by_cases hc0 : c = 0
            · have e0 : subz kw i br c = [] := by rw [hc0]; rfl
              rw [e0] at se
              simp only [List.length_nil] at se
              subst se
              have HGL := Aside0.mk (HGj.out.leaf HJ1.out (by rw [← HCC.out]; exact hc0) H.out.pu hb2 HF.out.2.2.1 HU1.out)
              obtain ⟨x0, br', hbr⟩ : ∃ x0 br', br = x0 :: br' := by
                have hne := HF.out.1
                cases br with
                | nil => exact absurd rfl hne
                | cons a t => exact ⟨a, t, rfl⟩
              have hbr0 : 0 < br.length := by rw [hbr]; simp
              have hx0 : x0 < kw.length := (HF.out.2.1 x0 (by rw [hbr]; simp)).1
              have hidl := H.out.idl
              have hx0i : x0 < ids.length := by omega
              have f1 : wr.cell? ⟨gb, 0, none⟩ = some (.int .i64 x0) := by
                have := (H.out.brs.chg HCW.out (by have := H.out.ne.1; simpa using this)) 0 hbr0
                rw [this]
                simp [hbr, i64]
              obtain ⟨idv, hid⟩ : ∃ idv, idv = ids[x0] := ⟨_, rfl⟩
              have f2 : wr.cell? ⟨gi, x0, none⟩ = some (.int .i64 idv) := by
                have := (H.out.idr.chg HCW.out (by have := H.out.ne.2.2; simpa using this)) x0 hx0i
                rw [this, hid]
              have f3 := H.out.ids2 idv (by rw [hid]; exact List.getElem_mem _)
              have f4 := HAj.out.base (base + c) hq1
              have f5 := HAj.out.frozen ((base + c) * 2) none
              have g1 : ((base : Int) + (c : Int)).toNat = base + c := by omega
              have g2 : decide ((0:Int) ≤ (base:Int) + (c:Int)) = true := decide_eq_true (by omega)
              have g3 : decide ((base:Int) + (c:Int) < (n:Int)) = true := decide_eq_true (by omega)
              have g21 : (0:Int) ≤ (base:Int) + (c:Int) := by omega
              have g31 : (base:Int) + (c:Int) < (n:Int) := by omega
              have g4 : decide ((0:Int) ≤ (x0:Int)) = true := decide_eq_true (by omega)
              have g5 : decide ((x0:Int) < (ids.length:Int)) = true := decide_eq_true (by omega)
              have g6 : decide ((0:Int) < (br.length:Int)) = true := decide_eq_true (by omega)
              have g7 : (((ids.length : Nat) : Int) == 0) = false := beq_eq_false_iff_ne.2 (by omega)
              have g8 : (ids.length == 0) = false := beq_eq_false_iff_ne.2 (by omega)
              have g9 : IntKind.i64.wrap (-idv) = -idv := wrap_neg f3.1 (by omega)
              have g10 : IntKind.i32.wrap (-idv) = -idv := wrap32n f3.1 (by omega)
              have HIDV : Aside0 (ids.getD (br.headD 0) 0 = idv) := ⟨by rw [hbr, hid, List.headD_cons, List.getD_eq_getElem?_getD, List.getElem?_eq_getElem hx0i]; rfl⟩
              have HC0 := Aside0.mk hc0
              clear hbr hid f3 e0 sl2 sl3 s4 hc0 hidl
              go_wp2_with (at_lookup; refine wpList_lookup rfl _ _ _ false rfl rfl (c : Int) rfl HS1.out (keyInt Try.underlying5) Try.underlying81 (.slice none 0 0) zeroIS ?_; rw [if_neg (by decide), HS2.out])
              refine still_tail 14 (by kernel_rfl) (by kernel_rfl) ?_
              intro w7 e7
              have HA7 : Aside0 (At w7 v b n Bj Cj) := ⟨by rw [e7]; exact HAj.out.drew⟩
              have HC7 : Aside0 (Chg [b] w2 w7) := ⟨by rw [e7]; exact HCj.out.drew⟩
              have h71 : w7.cell? ⟨gb, 0, none⟩ = some (.int .i64 x0) := by rw [e7]; exact f1
              have h72 : w7.cell? ⟨gi, x0, none⟩ = some (.int .i64 idv) := by rw [e7]; exact f2
              clear e7 f1 f2 f4 f5 d1 d2 d3
              have d2 := HA7.out.cell
              have f4 := HA7.out.base (base + c) hq1
              have f5 := HA7.out.frozen ((base + c) * 2) none
              simp only [List.take_succ_cons, List.take_zero, List.drop_succ_cons, List.drop_zero]
              repeat still_step
              refine wpStill_nil ?_
              go_wp2_with fail
              go_roundw
              case rel =>
                have hg := HGL.out
                rw [HIDV.out] at hg
                refine ⟨j + 1, upd Bj (base + c) (-idv), Cj, Uj, by go_num, ⟨by omega⟩, ⟨HA7.out.setBase (base + c) _⟩, ⟨?_⟩, ⟨HC7.out.setCell (.inl (by simp)) _⟩⟩
                rw [HC0.out]
                exact hg
              case measure => simp [intOf]; omega
            · have hz : subz kw i br c = sub kw i br c := if_neg hc0
              rw [hz] at se sl1 s3 sl2
              have hcc := HCC.out
              have hfit := HF.out.2.2.2.2 c (by rw [← HCHS.out]; exact HCM.out) hc0
              have hsne : sub kw i br c ≠ [] := by
                intro e
                obtain ⟨x, x1, x2⟩ := (mem_chsOf kw i br c).1 (by rw [← HCHS.out]; exact HCM.out)
                have : x ∈ sub kw i br c := List.mem_filter.2 ⟨x1, decide_eq_true x2⟩
                rw [e] at this; cases this
              obtain ⟨gs, hgs⟩ := sl2 (by simpa using hsne)
              subst hgs
              subst se
              have hi2 : i + 1 ≤ 2000 := by
                obtain ⟨x, hx⟩ := List.exists_mem_of_ne_nil _ hsne
                have hx1 := List.mem_filter.1 hx
                have hx2 := of_decide_eq_true hx1.2
                have hxk := (HF.out.2.1 x hx1.1).1
                have := H.out.sz _ (show wd kw x ∈ kw by rw [wd_at kw hxk]; exact List.getElem_mem _)
                unfold chAt at hx2
                split at hx2
                · omega
                · omega
              have hcnt : Uj.length + cnt kw (i + 1) (sub kw i br c) ≤ 1300 := by
                have h1 := HGj.out.len
                have h2 := H.out.cnt
                have h3 := cost_all kw i br (fun x hx => (HF.out.2.1 x hx).2) HF.out.2.2.1
                have h4 : cost kw i br ((chsOf kw i br).take (j + 1)) = cost kw i br ((chsOf kw i br).take j) + cnt kw (i + 1) (sub kw i br c) := by
                  rw [take_succ_get HJ1.out, cost_append, ← hcc]
                  simp [cost, hc0]
                have h5 : cost kw i br (chsOf kw i br) = cost kw i br ((chsOf kw i br).take (j + 1)) + cost kw i br ((chsOf kw i br).drop (j + 1)) := by
                  rw [← cost_append, List.take_append_drop]
                omega
              have hpre : AddPre wr v b n Bj Cj (base + c) k (i + 1) (sub kw i br c) gs scp gk ck gi ci Uj kw ids := by
                refine ⟨HAj.out, RowAt.of_row s3, H.out.kws.chg HCW.out (by have := H.out.ne.2.1; simpa using this), H.out.idr.chg HCW.out (by have := H.out.ne.2.2; simpa using this), ⟨by have := s4 gs rfl; omega, H.out.ne.2⟩, ⟨sl1, H.out.caps.2⟩, H.out.n1, H.out.n2, HGj.out.inv, HGj.out.used, hcnt, ?_, hq1, .inr (by rw [HKID.out.2.1]; omega), fun q => by omega, HGj.out.pend c ?_, hfit, hi2, H.out.kwl, H.out.idl, H.out.ids2, H.out.sz, H.out.nz⟩
                · have := List.length_filter_le (fun x => decide (chAt (wd kw x) i = c)) br
                  unfold sub; omega
                · rw [List.drop_eq_getElem_cons HJ1.out, ← hcc]; simp
              have HIC := Aside0.mk (IH.out wr v b n Bj Cj (base + c) (i + 1) (sub kw i br c) gs scp gk ck gi ci Uj hpre)
              have HN0 : Aside0 (sub kw i br c ≠ []) := ⟨hsne⟩
              have HSUM := Aside0.mk (show ((base : Int) + (c : Int)) = ((base + c : Nat) : Int) from by omega)
              have HI1 := Aside0.mk (show ((i : Int) + 1) = ((i + 1 : Nat) : Int) from by omega)
              have hl30 : (sub kw i br c).length ≤ 30 := by
                have := List.length_filter_le (fun x => decide (chAt (wd kw x) i = c)) br
                unfold sub; omega
              have hl0 : 0 < (sub kw i br c).length := List.length_pos_iff.2 hsne
              have HBL : Aside0 (∀ B2 C2, Added n (base + c) k (i + 1) Bj Cj kw ids (sub kw i br c) Uj B2 C2 → ∃ U2, Grow n p base (k) i B C C1 kw ids br U (j + 1) B2 C2 U2) := ⟨fun B2 C2 hA => HGj.out.below HJ1.out (by rw [← hcc]; exact hc0) H.out.pu H.out.pn hb2 HF.out.2.2.1 HU1.out (by rw [← hcc]; exact hA)⟩
              have q1 : (((sub kw i br c).length : Int) == 0) = false := beq_eq_false_iff_ne.2 (by omega)
              have q2 : ((sub kw i br c).length == 0) = false := beq_eq_false_iff_ne.2 (by omega)
              clear hz sl1 sl2 sl3 s3 s4 hcc hfit hsne hcnt hpre
              go_wp2_with (first | (at_lookup; refine wpList_lookup rfl _ _ _ false rfl rfl (c : Int) rfl HS1.out (keyInt Try.underlying5) Try.underlying81 (.slice none 0 0) zeroIS ?_; rw [if_neg (by decide), HS2.out]) | (go_at_call 46; rw [HSUM.out, HI1.out]; refine HIC.out.mono ?_; rintro e w7 ⟨rfl, B2, C2, ha7, hc7, hA7⟩; obtain ⟨U2, hU2⟩ := HBL.out B2 C2 hA7; have HA7 := Aside0.mk ha7; have HC7 := Aside0.mk (HCj.out.trans hc7); have HU2 := Aside0.mk hU2; clear ha7 hc7 hA7 hU2 HIC))
              go_roundw
              case rel => exact ⟨j + 1, B2, C2, U2, by go_num, ⟨by omega⟩, HA7, HU2, HC7⟩
              case measure => simp [intOf]; omega
          · have hj : j = chs.length := by have := HJ.out; omega
            have hfin : AddPost w wr v b n p (k + 1) i B C kw ids br U := by
              have hg := HGj.out
              rw [hj, HCHS.out] at hg
              refine ⟨Bj, Cj, HAj.out, hc20.out.trans HCj.out, hg.fin hb2 (fun x hx => (HF.out.2.1 x hx).2) HF.out.2.2.1 (fun r r1 r2 r3 => ?_)⟩
              rcases Int.lt_or_le (C r) 0 with q | q
              · exact q
              · rw [HM2.out.old r r1 r2 q] at r3; omega
            have HFIN := Aside0.mk hfin
            have z1 : decide (j < chs.length) = false := decide_eq_false hlt
            have z2 : decide ((j:Int) < (chs.length:Int)) = false := decide_eq_false (by omega)
            clear hfin hj
            go_wp2_with fail
            go_end0
            exact ⟨rfl, HFIN.out⟩
end Go.Proofs.Ytddcjmdcpkmnjab.Da
namespace Go.Proofs.Ytddcjmdcpkmnjab.Gn
open Go.RowKit Go.Proofs.YtddcjmdcpkmnjabW.PrintWords Go.Proofs.YtddcjmdcpkmnjabW.PrintLast Go.Proofs.YtddcjmdcpkmnjabW.PrintMore
theorem add_zero_addr (g j : Nat) : ((⟨g, 0, none⟩ : Addr).add j) = ⟨g, j, none⟩ := by
  unfold Addr.add
  by_cases hz : j = 0
  · rw [if_pos hz, hz]
  · rw [if_neg hz, Nat.zero_add]
theorem C_of_rowAt {α : Type} {enc : α → Value} {h1 : ∀ x, (enc x).oneCell' = true} {w : World} {g : Nat} {xs : List α} (h : RowAt w g enc xs) (hl : xs.length ≤ 9223372036854775807) : (Kd.scalar enc h1).C w (some ⟨g, 0, none⟩) xs.length xs := by
  refine ⟨rfl, hl, fun _ => ⟨⟨g, 0, none⟩, rfl, fun j p hj => ⟨[enc p], rfl, rfl, fun i u hu => ?_⟩⟩⟩
  obtain ⟨hj1, hj2⟩ := List.getElem?_eq_some_iff.1 hj
  rcases i with _ | i
  · have hu : enc p = u := by simpa using hu
    have := h j hj1
    show w.cell? ((⟨g, 0, none⟩ : Addr).add (j * 1 + 0)) = _
    rw [show j * 1 + 0 = j by omega, add_zero_addr, this, hj2, hu]
  · simp at hu
theorem C_of_row {α : Type} {enc : α → Value} {h1 : ∀ x, (enc x).oneCell' = true} {w : World} {e : Nat} {A : Option Addr} {c : Nat} {xs : List α} (h : ORow w e (.slice A xs.length c) (xs.map enc)) (hl : xs.length ≤ 9223372036854775807) : (Kd.scalar enc h1).C w A xs.length xs := by
  rcases h.parts with ⟨h2, h3⟩ | ⟨g, cap, cur, h2, _⟩
  · have : xs = [] := by simpa using h3
    subst this
    exact ⟨rfl, by simp, fun h => by simp at h⟩
  · injection h2 with h2 h3 h4
    subst h2
    exact C_of_rowAt (RowAt.of_row h) hl
theorem R_of_row {α : Type} {enc : α → Value} {h1 : ∀ x, (enc x).oneCell' = true} {w : World} {e base : Nat} {ok : Nat → Prop} {v : Value} {xs : List α} (h : ORow w e v (xs.map enc)) (hb : ∀ g, v.ownBlock = some g → base ≤ g ∧ ok g) : (Kd.scalar enc h1).R e w base ok v xs := by
  refine ⟨fun k hk => (hb k hk).2, xs.map enc, ?_, ?_⟩
  · rcases h.parts with ⟨h2, h3⟩ | ⟨g, cap, cur, h2, h3, h4, h5, h6, h7⟩
    · have : xs = [] := by simpa using h3
      subst this
      exact ⟨rfl, .inl ⟨h2, rfl⟩⟩
    · refine ⟨(show (xs.map enc).length = xs.length * 1 by simp), .inr ⟨g, cap, cur, by simpa using h2, (hb g (by rw [h2]; rfl)).1, h3, by simpa using h4, h5, ?_, ?_⟩⟩
      · show cur.size = cap * 1
        omega
      · show cur.toList.take (xs.length * 1) = _
        simpa using h7
  · refine ⟨(show (xs.map enc).length = xs.length * 1 by simp), fun j p hj => ?_⟩
    show ((xs.map enc).drop (j * 1)).take 1 = [enc p]
    obtain ⟨hj1, hj2⟩ := List.getElem?_eq_some_iff.1 hj
    rw [Nat.mul_one, List.drop_eq_getElem_cons (by simpa using hj1)]
    simp [hj2]
theorem row_of_R {α : Type} {enc : α → Value} {h1 : ∀ x, (enc x).oneCell' = true} {w : World} {e base : Nat} {ok : Nat → Prop} {v : Value} {xs : List α} (h : (Kd.scalar enc h1).R e w base ok v xs) : ORow w e v (xs.map enc) := by
  obtain ⟨_, cs, h2, h3, h4⟩ := h
  have hcs : cs = xs.map enc := by
    apply List.ext_getElem?
    intro j
    have hl : cs.length = xs.length * 1 := h3
    by_cases hj : j < xs.length
    · have := h4 j xs[j] (List.getElem?_eq_getElem hj)
      have this : (cs.drop (j * 1)).take 1 = [enc xs[j]] := this
      rw [Nat.mul_one, List.drop_eq_getElem_cons (by omega)] at this
      simp only [List.take_succ_cons, List.take_zero, List.cons.injEq, and_true] at this
      rw [List.getElem?_eq_getElem (by omega), this, List.getElem?_map, List.getElem?_eq_getElem hj]
      rfl
    · rw [List.getElem?_eq_none (by omega), List.getElem?_eq_none (by simpa using hj)]
  subst hcs
  obtain ⟨a1, a2⟩ := h2
  refine ⟨by simp, ?_⟩
  rcases a2 with ⟨a2, a3⟩ | ⟨g, cap, cur, a2, a3, a4, a5, a6, a7, a8⟩
  · exact .inl ⟨a2, by simpa using a3⟩
  · have a8 : cur.toList.take (xs.length * 1) = xs.map enc := a8
    have a7 : cur.size = cap * 1 := a7
    exact .inr ⟨g, cap, cur, by simpa using a2, Nat.zero_le _, a4, by simpa using a5, a6, a7, by simpa using a8⟩
end Go.Proofs.Ytddcjmdcpkmnjab.Gn
namespace Go.Proofs.Ytddcjmdcpkmnjab.Gn
open Go.RowKit Go.Sort Go.Proofs.YtddcjmdcpkmnjabW.PrintWords Go.Proofs.Ytddcjmdcpkmnjab.P
def toB (l : List UInt8) : ByteArray := ⟨l.toArray⟩
theorem toB_toL (s : ByteArray) : toB s.data.toList = s := by cases s; simp [toB]
theorem sort_any (w : World) (g c : Nat) (kw : List ByteArray) (h : ORow w 9 (.slice (some ⟨g, 0, none⟩) kw.length c) (kw.map Value.string)) (hl : kw.length < 1000000) :
    Calls Try.prog 45 #[.slice (some ⟨g, 0, none⟩) kw.length c] w fun e w' => e = .returned (.tuple #[]) ∧ ∃ ks : List ByteArray, ks.Perm kw ∧ Da.Srt ks ∧ ORow w' 9 (.slice (some ⟨g, 0, none⟩) ks.length c) (ks.map Value.string) ∧ Chg [g] w w' := by
  obtain ⟨ss, hss⟩ : ∃ ss : List (List UInt8), ss = kw.map (fun s => s.data.toList) := ⟨_, rfl⟩
  have hlen : ss.length = kw.length := by rw [hss, List.length_map]
  rcases h.parts with ⟨h1, _⟩ | ⟨g2, cap, cur, h1, h2, h3, h4, h5, h6⟩
  · cases h1
  injection h1 with h1 h7 h8
  injection h1 with h1
  injection h1 with h1
  subst h1
  subst h8
  have hcell : ∀ j, j < kw.length → cur[j]? = some (Value.string (kw.getD j ⟨#[]⟩)) := fun j hj => by
    have : (cur.toList.take (kw.map Value.string).length)[j]? = some (Value.string (kw.getD j ⟨#[]⟩)) := by
      rw [h6, List.getElem?_map, List.getElem?_eq_getElem hj, List.getD_eq_getElem?_getD, List.getElem?_eq_getElem hj]; rfl
    rw [List.getElem?_take, if_pos (by simpa using hj)] at this
    simpa using this
  have hH : Holds encStr w g 0 ss.toArray := fun j hj => by
    have hj' : j < kw.length := by simpa [hlen] using hj
    refine ⟨?_, by simp [World.frozen?, h2]⟩
    rw [Nat.zero_add]
    have : w.cell? ⟨g, j, none⟩ = cur[j]? := by simp [World.cell?, h2]
    rw [this, hcell j hj']
    have e : ss.toArray[j]! = (kw.getD j ⟨#[]⟩).data.toList := by
      have hj2 : j < ss.length := by omega
      rw [getElem!_pos ss.toArray j (by simpa using hj2)]
      simp only [hss, List.getElem_toArray, List.getElem_map]
      rw [List.getD_eq_getElem?_getD, List.getElem?_eq_getElem hj']; rfl
    rw [e]
  have hc := Try.sort_Strings g 0 c ss w hH (Array.getElem?_eq_some_iff.1 h2).1 (by omega)
  rw [hlen] at hc
  refine hc.mono ?_
  rintro e w' ⟨rfl, n, os, rfl⟩
  obtain ⟨ms, hms⟩ : ∃ ms, ms = ss.mergeSort (fun x y => decide (x ≤ y)) := ⟨_, rfl⟩
  rw [← hms]
  have hperm : ms.Perm ss := by rw [hms]; exact List.mergeSort_perm _ _
  have hmlen : ms.length = kw.length := by rw [hperm.length_eq, hlen]
  refine ⟨rfl, ms.map toB, ?_, ?_, ?_, ?_⟩
  · have := hperm.map toB
    rw [hss, List.map_map] at this
    have e : (toB ∘ fun s : ByteArray => s.data.toList) = id := by funext s; exact toB_toL s
    rwa [e, List.map_id] at this
  · have hs := List.pairwise_mergeSort (le := fun x y : List UInt8 => decide (x ≤ y)) (fun a b c h1 h2 => by simp only [decide_eq_true_eq] at *; exact Std.le_trans h1 h2) (fun a b => by simp only [Bool.or_eq_true, decide_eq_true_eq]; exact Std.le_total) ss
    rw [← hms] at hs
    unfold Da.Srt
    rw [List.pairwise_map]
    exact hs.imp (fun h => by simpa [toB] using h)
  · have hb : (grow (putRow encStr (Sort.ahead w n) g 0 ms.toArray) os).heap[g]? = some (.cells (putCells encStr 0 ms.toArray cur) 9 (0, 0)) := by
      have hlt := (Array.getElem?_eq_some_iff.1 h2).1
      have h3' := (Array.getElem?_eq_some_iff.1 h2).2
      show ((w.heap.modify g (onCells (putCells encStr 0 ms.toArray))) ++ os)[g]? = _
      rw [Array.getElem?_append_left (by simpa using hlt), Array.getElem?_eq_getElem (by simpa using hlt), Array.getElem_modify_self, h3']
      rfl
    have hl2 : (ms.map toB).length = (kw.map Value.string).length := by simp [hmlen]
    have e1 : ((ms.map toB).map Value.string).length = (ms.map toB).length := by simp
    rw [← e1]
    refine ORow.of hb (by rw [e1, hl2]; exact h3) h4 (by simp [putCells, h5]) ?_
    apply List.ext_getElem?
    intro j
    rw [List.getElem?_take]
    by_cases hj : j < ms.length
    · rw [if_pos (by simpa using hj)]
      have hjc : j < cur.size := by rw [h5]; simp at h3; omega
      simp only [putCells, Array.getElem?_toList, Array.getElem?_mapIdx, Array.getElem?_eq_getElem hjc, Option.map_some]
      rw [if_pos ⟨Nat.zero_le _, by simpa using hj⟩]
      rw [List.getElem?_map, List.getElem?_map, List.getElem?_eq_getElem hj]
      simp only [Nat.sub_zero]
      rw [getElem!_pos ms.toArray j (by simpa using hj)]
      rfl
    · rw [if_neg (by simpa using hj), List.getElem?_eq_none (by simpa using hj)]
  · refine ⟨rfl, rfl, rfl, ?_, fun k hk hs => ?_⟩
    · show w.heap.size ≤ ((w.heap.modify g (onCells (putCells encStr 0 ms.toArray))) ++ os).size
      simp
    · show ((w.heap.modify g (onCells (putCells encStr 0 ms.toArray))) ++ os)[k]? = w.heap[k]?
      have hkg : g ≠ k := fun e => hs (by simp [e])
      rw [Array.getElem?_append_left (by simpa using hk), Array.getElem?_modify, if_neg hkg]
theorem less_eq (a b : ByteArray) : cmp_Less_string.f a b = some (decide (a.data.toList < b.data.toList)) := by
  unfold cmp_Less_string.f cmp_isNaN_string.f
  simp [Go.ByteArray.toList_eq, Go.Proofs.bytesLess_eq]
theorem sorted_loop (kw : List ByteArray) (hl : kw.length < 1000000) : ∀ (d k : Nat), d < kw.length → d < k → ∃ r, slices_IsSorted_string_string.l0 k kw (d : Int) = some r ∧ (r = true → ∀ i, i < d → ∀ (h : i + 1 < kw.length), (kw[i]'(by omega)).data.toList ≤ (kw[i + 1]).data.toList) := by
  intro d
  induction d with
  | zero =>
    intro k h hk
    obtain ⟨k, rfl⟩ : ∃ m, k = m + 1 := ⟨k - 1, by omega⟩
    exact ⟨true, by simp only [slices_IsSorted_string_string.l0]; rw [if_neg (by omega)], fun _ i hi => by omega⟩
  | succ d ih =>
    intro k h hk
    obtain ⟨k, rfl⟩ : ∃ m, k = m + 1 := ⟨k - 1, by omega⟩
    have hw : wrap64 (((d + 1 : Nat) : Int) - 1) = (d : Int) := by unfold wrap64; omega
    have e1 : rdOf ByteArray.empty kw ((d + 1 : Nat) : Int) = kw[d + 1] := by unfold rdOf; rw [show ((d + 1 : Nat) : Int).toNat = d + 1 by omega, List.getD_eq_getElem?_getD, List.getElem?_eq_getElem h]; rfl
    have e2 : rdOf ByteArray.empty kw (d : Int) = kw[d]'(by omega) := by unfold rdOf; rw [show (d : Int).toNat = d by omega, List.getD_eq_getElem?_getD, List.getElem?_eq_getElem (by omega)]; rfl
    have hx : slices_IsSorted_string_string.l0 (k + 1) kw ((d + 1 : Nat) : Int) = (if (decide (kw[d + 1].data.toList < (kw[d]'(by omega)).data.toList)) = true then some false else slices_IsSorted_string_string.l0 k kw (d : Int)) := by
      simp only [slices_IsSorted_string_string.l0]
      rw [hw, e1, e2, less_eq, if_pos (by omega), if_pos (by omega), if_pos (by omega), if_pos (by omega), if_pos (by omega)]
      rfl
    by_cases hlt : kw[d + 1].data.toList < (kw[d]'(by omega)).data.toList
    · exact ⟨false, by rw [hx, decide_eq_true hlt]; rfl, fun h => by cases h⟩
    · obtain ⟨r, r1, r2⟩ := ih k (by omega) (by omega)
      refine ⟨r, by rw [hx, decide_eq_false hlt]; exact r1, fun hr i hi hi2 => ?_⟩
      rcases Nat.lt_or_ge i d with g | g
      · exact r2 hr i g hi2
      · obtain rfl : i = d := by omega
        exact hlt
theorem srt_of (kw : List ByteArray) (h : ∀ i, ∀ (h : i + 1 < kw.length), (kw[i]'(by omega)).data.toList ≤ (kw[i + 1]).data.toList) : Da.Srt kw := by
  unfold Da.Srt
  rw [List.pairwise_iff_getElem]
  have key : ∀ d i, ∀ (h1 : i + d < kw.length), (kw[i]'(by omega)).data.toList ≤ (kw[i + d]).data.toList := by
    intro d
    induction d with
    | zero => intro i h1; exact Std.le_refl _
    | succ d ih => intro i h1; exact Std.le_trans (ih i (by omega)) (h (i + d) h1)
  intro i j hi hj hij
  have := key (j - i) i (by omega)
  simpa [show i + (j - i) = j by omega] using this
theorem sorted_any (w : World) (g c : Nat) (kw : List ByteArray) (h : ORow w 9 (.slice (some ⟨g, 0, none⟩) kw.length c) (kw.map Value.string)) (hl : kw.length < 1000000) (h0 : 0 < kw.length) (hc : kw.length ≤ c) :
    Calls Try.prog 42 #[.slice (some ⟨g, 0, none⟩) kw.length c] w fun e w' => ∃ r : Bool, e = .returned (.bool r) ∧ (r = true → Da.Srt kw) ∧ ∃ n, w' = w.drewN n := by
  obtain ⟨r, r1, r2⟩ := sorted_loop kw hl (kw.length - 1) kw.length (by omega) (by omega)
  have hf : sort_StringsAreSorted.f kw.length kw = some r := by
    unfold sort_StringsAreSorted.f slices_IsSorted_string_string.f
    have hw : wrap64 ((kw.length : Int) - 1) = ((kw.length - 1 : Nat) : Int) := by unfold wrap64; omega
    rw [hw, r1]; rfl
  have hC : Kd.C Kd.string w (some ⟨g, 0, none⟩) kw.length kw := by
    exact C_of_row h (by omega)
  refine (sort_StringsAreSorted.calls kw.length (some ⟨g, 0, none⟩) c kw r w hC hc hf).mono ?_
  rintro e w' ⟨rfl, hd⟩
  exact ⟨r, rfl, fun hr => srt_of kw (fun i hi => r2 hr i (by omega) hi), hd.out⟩
end Go.Proofs.Ytddcjmdcpkmnjab.Gn
namespace Go.Proofs.Ytddcjmdcpkmnjab.Da
open Go.RowKit Go.Proofs.YtddcjmdcpkmnjabW.PrintWords Go.Proofs.Ytddcjmdcpkmnjab.Gn
theorem C0_at (N r : Nat) (h1 : 1 ≤ r) (h : r < N) : C0 N r = if r = N - 1 then -1 else -((r : Int) + 1) := by
  unfold C0 upd C1
  by_cases e : r = N - 1
  · rw [if_pos e, if_pos e]
  · rw [if_neg e, if_neg e, if_neg (by omega), if_pos h]
theorem B0_at (N r : Nat) (h1 : 1 ≤ r) (h : r < N) : B0 N r = if r = 1 then -((N : Int) - 1) else -((r : Int) - 1) := by
  unfold B0 upd B1
  by_cases e : r = 1
  · rw [if_pos e, if_pos e]
  · rw [if_neg e, if_neg e, if_neg (by omega), if_pos h]
theorem C0_zero (N : Nat) (h : 4 ≤ N) : C0 N 0 = -1 := by
  unfold C0 upd C1
  rw [if_neg (by omega), if_pos rfl]
theorem C0_neg (N r : Nat) (h1 : 1 ≤ r) (h : r < N) : C0 N r < 0 := by
  rw [C0_at N r h1 h]
  split <;> omega
theorem inv_init (N : Nat) (hN : 4 ≤ N) : Inv N (B0 N) (C0 N) := by
  refine ⟨⟨1, by rw [C0_zero N hN]; rfl, by omega, by omega, C0_neg N 1 (by omega) (by omega), fun r a b => by omega⟩, fun p a b _ => ?_, fun q a b _ => ?_, fun r a b c => ?_⟩
  · by_cases e : p = N - 1
    · refine ⟨1, by rw [C0_at N p a b, if_pos e]; rfl, by omega, by omega, C0_neg N 1 (by omega) (by omega), by rw [B0_at N 1 (by omega) (by omega), if_pos rfl]; omega, .inr ⟨by omega, fun r c d => by omega, fun r c d => by omega⟩⟩
    · refine ⟨p + 1, by rw [C0_at N p a b, if_neg e]; omega, by omega, by omega, C0_neg N _ (by omega) (by omega), by rw [B0_at N (p + 1) (by omega) (by omega), if_neg (by omega)]; omega, .inl ⟨by omega, fun r c d => by omega⟩⟩
  · by_cases e : q = 1
    · exact ⟨N - 1, by rw [B0_at N q a b, if_pos e]; omega, by omega, by omega, C0_neg N _ (by omega) (by omega), by rw [C0_at N (N - 1) (by omega) (by omega), if_pos rfl, e]; rfl⟩
    · exact ⟨q - 1, by rw [B0_at N q a b, if_neg e]; omega, by omega, by omega, C0_neg N _ (by omega) (by omega), by rw [C0_at N (q - 1) (by omega) (by omega), if_neg (by omega)]; omega⟩
  · have := C0_neg N r a b; omega
structure BuildPre (w : World) (gk ck gi ci : Nat) (kw : List ByteArray) (ids : List Int) : Prop where
  kws : ORow w 9 (.slice (some ⟨gk, 0, none⟩) kw.length ck) (kw.map Value.string)
  idr : ORow w 3 (.slice (some ⟨gi, 0, none⟩) ids.length ci) (ids.map (Value.int .i64))
  ne : gk ≠ gi
  len : ids.length = kw.length
  pos : 0 < kw.length
  most : kw.length ≤ 30
  nd : kw.Nodup
  ids2 : ∀ x ∈ ids, 0 ≤ x ∧ x ≤ 1100000
  sz : ∀ s ∈ kw, s.size ≤ 40
  nz : ∀ s ∈ kw, ∀ j, j < s.size → (s.get! j).toNat ≠ 0
/-- What is built. -/
def Built (w w' : World) (S : List Nat) (kw : List ByteArray) (ids : List Int) (v : Value) : Prop :=
  ∃ b m B C, v = .slice (some ⟨b, 0, none⟩) m m ∧ w'.heap[b]? = some (.cells (row m B C) 70 (0, 0)) ∧ w.heap.size ≤ b ∧ m ≤ 60000 ∧ TrieOk kw ids m B C ∧ Chg S w w'
theorem cnt_le (kw : List ByteArray) (hs : ∀ s ∈ kw, s.size ≤ 40) : ∀ br : List Nat, cnt kw 0 br ≤ br.length * 41 := by
  intro br
  unfold cnt
  induction br with
  | nil => simp
  | cons x br ih =>
    have : (wd kw x).size ≤ 40 := by
      unfold wd
      rw [List.getD_eq_getElem?_getD]
      cases h : kw[x]? with
      | none => exact Nat.zero_le _
      | some s => exact hs s (List.mem_of_getElem? h)
    simp only [List.map_cons, List.sum_cons, List.length_cons]
    omega
theorem trie_ok {kw kw' : List ByteArray} {ids ids' : List Int} {m : Nat} {B C B2 C2 : Nat → Int} {U : List Nat} (hA : Added 51200 0 41 0 B C kw' ids' (List.range kw'.length) U B2 C2) (hm : m ≤ 51200) (hfree : ∀ r, m ≤ r → r < 51200 → C2 r < 0) (hf : Fit kw' 41 0 (List.range kw'.length))
    (hp : kw'.Perm kw) (hnd : kw.Nodup) (hid : ∀ x, x < kw'.length → ids'.getD x 0 = idOf kw ids (wd kw' x)) (h2 : ∀ x ∈ ids, 0 ≤ x ∧ x ≤ 1100000) (hl : ids.length = kw.length) (hnz : ∀ u ∈ kw, ∀ j, j < u.size → (u.get! j).toNat ≠ 0) : TrieOk kw ids m B2 C2 := by
  obtain ⟨U', a1, a2, a3, a4, a5⟩ := hA
  have hm0 : 0 < m := by
    rcases Nat.eq_zero_or_pos m with g | g
    · subst g
      obtain ⟨base, b1, b2, b3⟩ := a5
      obtain ⟨x, hx⟩ := List.exists_mem_of_ne_nil _ hf.1
      have := (b3 _ (chAt_le (wd kw' x) 0)).2 ((mem_chsOf _ _ _ _).2 ⟨x, hx, rfl⟩)
      have h3 := hfree _ (Nat.zero_le _) this.1
      rw [this.2.1] at h3
      omega
    · exact g
  refine ⟨⟨51200, _, 41, kw', ids', hp, hm, by omega, hfree, a5, hf, hp.nodup_iff.2 hnd, hid, h2, hl, hm0, hnz⟩, fun r hr => ?_⟩
  rcases Nat.eq_zero_or_pos r with g | g
  · subst g
    obtain ⟨h, b1, b2, b3, _⟩ := a1.root
    omega
  · rcases Int.lt_or_le (C2 r) 0 with g2 | g2
    · obtain ⟨q, b1, b2, b3, _⟩ := a1.next r g (by omega) g2
      omega
    · obtain ⟨q, b1, b2, _⟩ := a1.par r g (by omega) g2
      omega
/-- Places from 0 on, as far as they are laid. -/
def brow (L i : Nat) : Array Value := Array.ofFn (n := L) fun q => .int .i64 (if q.val < i then (q.val : Int) else 0)
theorem brow_get (L i q : Nat) : (brow L i)[q]? = if q < L then some (.int .i64 (if q < i then (q : Int) else 0)) else none := by
  by_cases h : q < L
  · rw [if_pos h]; simp [brow, h]
  · rw [if_neg h]; simp [brow]; omega
theorem brow_zero (L : Nat) : madeCells #[.int .i64 0] (L * 1) = brow L 0 := by
  apply Array.ext_getElem?
  intro q
  rw [brow_get]
  unfold madeCells
  by_cases h : q < L
  · rw [if_pos h, Array.getElem?_map, Array.getElem?_range, if_pos (by omega)]
    simp [Nat.mod_one]
  · rw [if_neg h, Array.getElem?_eq_none (by simp; omega)]
theorem brow_set (L i : Nat) : (brow L i).setIfInBounds i (.int .i64 i) = brow L (i + 1) := by
  apply Array.ext_getElem?
  intro q
  rw [Array.getElem?_setIfInBounds, brow_get, brow_get]
  by_cases e : i = q
  · subst e
    rw [if_pos rfl]
    have : (brow L i).size = L := by simp [brow]
    rw [this]
    by_cases h : i < L
    · rw [if_pos h, if_pos h, if_pos (by omega)]
    · rw [if_neg h, if_neg h]
  · rw [if_neg e]
    by_cases h : q < L
    · rw [if_pos h, if_pos h]
      by_cases h2 : q < i
      · rw [if_pos h2, if_pos (by omega)]
      · rw [if_neg h2, if_neg (by omega)]
    · rw [if_neg h, if_neg h]
theorem brow_row {w : World} {g L : Nat} (h : w.heap[g]? = some (.cells (brow L L) 3 (0, 0))) : RowAt w g i64 (List.range L) := fun j hj => by
  have hj' : j < L := by simpa using hj
  simp [World.cell?, h, brow_get, hj', i64]
def Filled (w : World) (r : Nat) (kw : List ByteArray) (ids : List Int) (j : Nat) : Prop :=
  ∃ S : List (ByteArray × Value), MapAt w r (fun s : ByteArray => Value.string s) S ∧ ∀ x, x < j → ∀ (h : x < kw.length), getL S kw[x] = some (.int .i64 (ids.getD x 0))
theorem Filled.put {w' : World} {r : Nat} {kw : List ByteArray} {ids : List Int} {j : Nat} {S : List (ByteArray × Value)} (h : ∀ x, x < j → ∀ (h : x < kw.length), getL S kw[x] = some (.int .i64 (ids.getD x 0))) (hnd : kw.Nodup) (hj : j < kw.length) {s : ByteArray} (hs : s = kw[j]) {y : Int} (hy : y = ids.getD j 0)
    (hm : MapAt w' r (fun s : ByteArray => Value.string s) (putL S s (.int .i64 y))) : Filled w' r kw ids (j + 1) := by
  refine ⟨_, hm, fun x hx hx2 => ?_⟩
  rw [getL_putL, hs]
  by_cases e : x = j
  · subst e; rw [if_pos rfl, hy]
  · rw [if_neg (fun q => e (by have h1 := hnd.idxOf_getElem x hx2; have h2 := hnd.idxOf_getElem j hj; rw [q, h2] at h1; exact h1.symm))]
    exact h x (by omega) hx2
theorem zeroI (w : World) : (zeroValue 3).run Try.prog w = .ok (.int .i64 0) w := by kernel_rfl
theorem Filled.get {w : World} {r : Nat} {kw : List ByteArray} {ids : List Int} (h : Filled w r kw ids kw.length) (hnd : kw.Nodup) : ∃ S : List (ByteArray × Value), MapAt w r (fun s : ByteArray => Value.string s) S ∧ ∀ s ∈ kw, getL S s = some (.int .i64 (idOf kw ids s)) := by
  obtain ⟨S, h1, h2⟩ := h
  refine ⟨S, h1, fun s hs => ?_⟩
  obtain ⟨x, hx, rfl⟩ := List.getElem_of_mem hs
  rw [h2 x hx hx]
  unfold idOf
  rw [hnd.idxOf_getElem x hx]
theorem own_slice {w : World} {e n : Nat} {v : Value} {xs : List Value} (h : ORow w e v xs) (h0 : xs ≠ []) (hn : xs.length = n) : ∃ g c, v = .slice (some ⟨g, 0, none⟩) n c ∧ n ≤ c := by
  subst hn
  obtain ⟨A, c, e, h1, h2, _⟩ := h.slice
  obtain ⟨g, rfl⟩ := h2 h0
  exact ⟨g, c, e, h1⟩
theorem ORow.cut0 {w : World} {e g n c : Nat} {xs : List Value} (h : ORow w e (.slice (some ⟨g, 0, none⟩) n c) xs) : ORow w e (.slice (some ⟨g, 0, none⟩) 0 c) [] := by
  rcases h.parts with ⟨h1, _⟩ | ⟨g2, cap, cur, h1, h2, h3, h4, h5, h6⟩
  · cases h1
  · injection h1 with h1 h7 h8
    injection h1 with h1
    injection h1 with h1
    subst h1
    subst h8
    exact ORow.of h2 (Nat.zero_le _) h4 h5 rfl
set_option maxHeartbeats 2000000 in
set_option maxRecDepth 100000 in
theorem build_calls (w : World) (gk ck gi ci : Nat) (kw : List ByteArray) (ids : List Int) (h : BuildPre w gk ck gi ci kw ids) :
    Calls Try.prog 40 #[.slice (some ⟨gk, 0, none⟩) kw.length ck, .slice (some ⟨gi, 0, none⟩) ids.length ci] w fun e w' => ∃ v, e = .returned (.tuple #[v, .nilIface]) ∧ Built w w' [gk, gi] kw ids v := by
  have H := Aside0.mk h
  have hmost := h.most
  have hpos := h.pos
  have q1 : (((kw.length : Nat) : Int) != ((ids.length : Nat) : Int)) = false := bne_eq_false_iff_eq.2 (by rw [h.len])
  have q2 : (kw.length != ids.length) = false := bne_eq_false_iff_eq.2 (by rw [h.len])
  have q3 : (((kw.length : Nat) : Int) == 0) = false := beq_eq_false_iff_ne.2 (by omega)
  have q4 : (kw.length == 0) = false := beq_eq_false_iff_ne.2 (by omega)
  clear h
  go_enter Try.func40, Try.ntmps40
  have HV0 : Aside0 (Var ((w.alloc (.cells #[] 70)).alloc (.cells #[.slice (some ⟨w.heap.size, 0, none⟩) 0 0] 51)) (w.heap.size + 1) 51 (.slice (some ⟨w.heap.size, 0, none⟩) 0 0)) := ⟨by
    have := heap_alloc_new (w.alloc (.cells #[] 70)) (.cells #[.slice (some ⟨w.heap.size, 0, none⟩) 0 0] 51)
    rw [size_alloc] at this
    exact this⟩
  have HC0 : Aside0 (Chg [] w ((w.alloc (.cells #[] 70)).alloc (.cells #[.slice (some ⟨w.heap.size, 0, none⟩) 0 0] 51))) := ⟨((Chg.refl [] w).alloc _).alloc _⟩
  have HZ0 : Aside0 (((w.alloc (.cells #[] 70)).alloc (.cells #[.slice (some ⟨w.heap.size, 0, none⟩) 0 0] 51)).heap.size = w.heap.size + 2) := ⟨by rw [size_alloc, size_alloc]⟩
  go_wp2_with fail
  generalize (w.alloc (.cells #[] 70)).alloc (.cells #[.slice (some ⟨w.heap.size, 0, none⟩) 0 0] 51) = w0 at *
  refine (init_calls w0 _ _ HV0.out).mono ?_
  rintro e w1 ⟨rfl, ha, hs, hc⟩
  rw [HZ0.out] at ha hs
  have hgk : gk < w.heap.size := (H.out.kws.block rfl).1
  have hgi : gi < w.heap.size := (H.out.idr.block rfl).1
  have HC1 : Aside0 (Chg [] w w1) := ⟨HC0.out.above hc (fun i hi => .inr (by rw [List.mem_singleton.1 hi]; omega))⟩
  have HA1 := Aside0.mk ha
  have HK1 := Aside0.mk (H.out.kws.chg HC1.out (fun _ _ => by simp))
  have HI1 := Aside0.mk (H.out.idr.chg HC1.out (fun _ _ => by simp))
  have HSZ1 := Aside0.mk hs
  have hkc : kw.length ≤ ck := by have := H.out.kws.slice; obtain ⟨A, c, e, h1, _⟩ := this; injection e with _ _ e; rw [e]; simpa using h1
  clear ha hs hc HC0 HZ0 HV0
  go_wp2_with fail
  refine (sorted_any w1 gk ck kw HK1.out (by omega) hpos hkc).mono ?_
  rintro e w2' ⟨r, rfl, hsrt, nd, rfl⟩
  have HA2 := Aside0.mk (HA1.out.drewN nd)
  have HC2 := Aside0.mk (HC1.out.drewN nd)
  have HK2 := Aside0.mk (HK1.out.chg ((Chg.refl [] w1).drewN nd) (fun _ _ => by simp))
  have HI2 := Aside0.mk (HI1.out.chg ((Chg.refl [] w1).drewN nd) (fun _ _ => by simp))
  have HSZ2 : Aside0 ((w1.drewN nd).heap.size = w.heap.size + 3) := ⟨HSZ1.out⟩
  clear HA1 HC1 HK1 HI1 HSZ1
  generalize w1.drewN nd = w2 at *
  cases r with
  | true =>
    have HSR := Aside0.mk (hsrt rfl)
    clear hsrt
    obtain ⟨kx, HKE⟩ : ∃ kx, Aside0 (kx = kw) := ⟨_, ⟨rfl⟩⟩
    have HP : Aside0 (kx.Perm kw) := ⟨by rw [HKE.out]⟩
    have HID : Aside0 (∀ x, x < kx.length → ids.getD x 0 = idOf kw ids (wd kx x)) := ⟨fun x hx => by
      rw [HKE.out] at hx ⊢
      unfold idOf
      rw [wd_get kw hx, H.out.nd.idxOf_getElem x hx]⟩
    have HIL : Aside0 (ids.length = kx.length) := ⟨by rw [HKE.out]; exact H.out.len⟩
    have HBI := Aside0.mk H.out.ids2
    have HSX : Aside0 (Srt kx) := ⟨by rw [HKE.out]; exact HSR.out⟩
    have HKX : Aside0 (ORow w2 9 (.slice (some ⟨gk, 0, none⟩) kx.length ck) (kx.map Value.string)) := ⟨by rw [HKE.out]; exact HK2.out⟩
    have HSZX : Aside0 (w.heap.size + 3 ≤ w2.heap.size) := ⟨by rw [HSZ2.out]; exact Nat.le_refl _⟩
    have HL : Aside0 (kx.length = kw.length) := ⟨HP.out.length_eq⟩
    have hgX : w.heap.size + 3 ≤ w2.heap.size := HSZX.out
    have HB3 : Aside0 (∀ w3, w3 = w2.alloc (.cells (madeCells #[.int .i64 0] (kw.length * 1)) 3) → w3.heap[w2.heap.size]? = some (.cells (brow kw.length 0) 3 (0, 0))) := ⟨fun w3 e => by rw [e, heap_alloc_new, brow_zero]⟩
    go_wp2_with (at_make; refine wpList_make rfl _ _ _ rfl 3 (.int .i64 0) 1 8 Try.underlying23 info3 .i64 .i64 (kw.length : Int) (kw.length : Int) rfl rfl (by omega) (by omega) (by omega) (by omega) ?_; intro w3 e3; have HR3 := Aside0.mk (HB3.out w3 e3); have HC3 : Aside0 (Chg [] w2 w3) := ⟨by rw [e3]; exact (Chg.refl [] w2).alloc _⟩; clear e3 HB3)
    go_loopw [67] (fun v67 wr => ∃ i : Nat, v67 = .int .i64 i ∧ Aside0 (i ≤ kw.length) ∧ Aside0 (wr.heap[w2.heap.size]? = some (.cells (brow kw.length i) 3 (0, 0))) ∧ Aside0 (Chg [w2.heap.size] w3 wr)) (fun v67 _ => kw.length - (intOf v67).toNat)
    case atStart => exact ⟨0, rfl, ⟨Nat.zero_le _⟩, HR3, ⟨Chg.refl _ _⟩⟩
    case round =>
      clear HR3
      obtain ⟨i, rfl, HI0, HR, HCR⟩ := hrel
      by_cases hlt : i < kw.length
      · have c1 : wr.cell? ⟨w2.heap.size, i, none⟩ = some (.int .i64 0) := by
          simp [World.cell?, HR.out, brow_get, hlt]
        have f1 : wr.frozen? ⟨w2.heap.size, i, none⟩ = false := by simp [World.frozen?, HR.out]
        have k1 : decide ((0:Int) ≤ (i:Int)) = true := decide_eq_true (by omega)
        have k2 : decide ((i:Int) < (kw.length:Int)) = true := decide_eq_true (by omega)
        have HR4 : Aside0 ((wr.setCell ⟨w2.heap.size, i, none⟩ (.int .i64 i)).heap[w2.heap.size]? = some (.cells (brow kw.length (i + 1)) 3 (0, 0))) := ⟨by
          have := heap_put wr ⟨w2.heap.size, i, none⟩ _ _ _ (.int .i64 i) HR.out rfl
          rw [this, brow_set]⟩
        go_wp2_with fail
        go_roundw
        case rel => exact ⟨i + 1, by go_num, ⟨by omega⟩, HR4, ⟨HCR.out.setCell (.inl (by simp)) _⟩⟩
        case measure => simp [intOf]; omega
      · have hi : i = kw.length := by have := HI0.out; omega
        have hrow := HR.out
        rw [hi] at hrow
        have k1 : decide (i < kw.length) = false := decide_eq_false hlt
        have k2 : decide ((i:Int) < (kw.length:Int)) = false := decide_eq_false (by omega)
        have hcx : Chg [w2.heap.size] w2 wr := (HC3.out.mono (by simp)).trans HCR.out
        have hcx0 : Chg [] w2 wr := hcx.above (Chg.refl [] _) (by simp) |> fun q => ⟨q.os, q.tape, q.output, q.size, fun j hj _ => hcx.block j hj (by simp; omega)⟩
        have hfit : Fit kx 41 0 (List.range kx.length) := fit_of kx HSX.out 40 (fun s hs => H.out.sz s (HP.out.mem_iff.1 hs)) (fun s hs => H.out.nz s (HP.out.mem_iff.1 hs)) 41 0 _ (by rw [HL.out]; intro e; have := congrArg List.length e; rw [List.length_range, List.length_nil] at this; omega) (List.pairwise_lt_range) (fun x hx => ⟨by simpa using hx, Nat.zero_le _⟩) (fun _ _ _ _ j hj => by omega) (by omega)
        have HFIT := Aside0.mk hfit
        have HAD := Aside0.mk (add_calls kx ids 41 wr (w.heap.size + 1) (w.heap.size + 2) 51200 (B0 51200) (C0 51200) 0 0 (List.range kx.length) w2.heap.size kw.length gk ck gi ci [] ⟨HA2.out.chg hcx0 (by simp) (by simp), by rw [HL.out]; exact brow_row hrow, by
          have := HKX.out.chg hcx0 (fun _ _ => by simp)
          exact RowAt.of_row this, by
          have := HI2.out.chg hcx0 (fun _ _ => by simp)
          exact RowAt.of_row this, ⟨by omega, by omega, by omega⟩, ⟨by rw [List.length_range, HL.out]; exact Nat.le_refl _, by rw [HL.out]; exact hkc, by have := H.out.idr.slice; obtain ⟨A, c, e, h1, _⟩ := this; injection e with _ _ e; rw [e]; simpa using h1⟩, by omega, by omega, inv_init 51200 (by omega), fun r a b c => by have := C0_neg 51200 r a b; omega, by
          have := cnt_le kx (fun s hs => H.out.sz s (HP.out.mem_iff.1 hs)) (List.range kx.length)
          rw [List.length_range, HL.out] at this
          rw [HL.out]
          simp only [List.length_nil]
          omega, by rw [List.length_range, HL.out]; exact hmost, by omega, .inl rfl, fun _ => ⟨rfl, fun r a b => C0_neg 51200 r a b⟩, fun r a b => by have := C0_neg 51200 r a b; omega, hfit, by omega, by rw [HL.out]; exact hmost, HIL.out, HBI.out, fun s hs => by have := H.out.sz s (HP.out.mem_iff.1 hs); omega, fun s hs => H.out.nz s (HP.out.mem_iff.1 hs)⟩)
        rw [List.length_range, HL.out] at HAD
        have HCX := Aside0.mk hcx0
        clear hi hrow hcx hcx0 hfit HI0 HR
        go_wp2_with fail
        refine HAD.out.mono ?_
        rintro e w4 ⟨rfl, B4, C4, ha4, hc4, hA4⟩
        have HC5 : Aside0 (Chg [gk, gi] w w4) := ⟨by
          have h1 : Chg [gk, gi] w w2 := HC2.out.mono (by simp)
          exact (h1.above HCX.out (by simp)).above hc4 (fun q hq => .inr (by rw [List.mem_singleton.1 hq]; omega))⟩
        have HSZ4 : Aside0 (w2.heap.size ≤ w4.heap.size) := ⟨Nat.le_trans HCX.out.size hc4.size⟩
        have HA4 := Aside0.mk ha4
        have HAA := Aside0.mk hA4
        clear ha4 hc4 hA4 HAD HCX
        go_wp2_with fail
        refine (truncate_calls w4 _ _ _ _ _ HA4.out (by omega)).mono ?_
        rintro e w5 ⟨rfl, m, b', hm1, hm2, ha5, hc5, hs5⟩
        have HC6 : Aside0 (Chg [gk, gi] w w5) := ⟨HC5.out.above hc5 (fun q hq => .inr (by rw [List.mem_singleton.1 hq]; omega))⟩
        have HA5 := Aside0.mk ha5
        have hcell := ha5.cell
        have HTR : Aside0 (TrieOk kw ids m B4 C4) := ⟨by
          have hAA := HAA.out
          rw [← HL.out] at hAA
          exact trie_ok hAA hm1 hm2 HFIT.out HP.out H.out.nd HID.out H.out.ids2 H.out.len H.out.nz⟩
        have HM1 := Aside0.mk hm1
        have HBB : Aside0 (w.heap.size ≤ b') := ⟨by have := HSZ4.out; rcases hs5 with q | q <;> omega⟩
        clear ha5 hc5 hm1 hm2 HA4 HAA HC5 hs5
        go_wp2_with fail
        go_ret2
        exact ⟨_, rfl, b', m, B4, C4, rfl, HA5.out.row, HBB.out, by have := HM1.out; omega, HTR.out, HC6.out⟩
  | false =>
    clear hsrt
    have hmm := @run_makeMap Try.prog
    have HM0 : Aside0 (Filled (w2.alloc (.map #[] 0)) w2.heap.size kw ids 0) := ⟨[], MapAt.new _ _, fun x hx => by omega⟩
    have HC0 : Aside0 (Chg [] w2 (w2.alloc (.map #[] 0))) := ⟨(Chg.refl [] w2).alloc _⟩
    go_wp2_with fail
    clear hmm
    go_loopw [33] (fun v33 wr => ∃ j : Nat, v33 = .int .i64 j ∧ Aside0 (j ≤ kw.length) ∧ Aside0 (Filled wr w2.heap.size kw ids j) ∧ Aside0 (Chg [w2.heap.size] (w2.alloc (.map #[] 0)) wr)) (fun v33 _ => kw.length - (intOf v33).toNat)
    case atStart => exact ⟨0, rfl, ⟨Nat.zero_le _⟩, HM0, ⟨Chg.refl _ _⟩⟩
    case round =>
      clear HM0
      obtain ⟨j, rfl, HJ, HFI, HCR⟩ := hrel
      have hcg : Chg [] w2 wr := HC0.out.above HCR.out (fun i hi => .inr (by rw [List.mem_singleton.1 hi]; exact Nat.le_refl _))
      by_cases hlt : j < kw.length
      · obtain ⟨s, hs⟩ : ∃ s, s = kw[j] := ⟨_, rfl⟩
        have hji : j < ids.length := by rw [H.out.len]; exact hlt
        obtain ⟨y, hy⟩ : ∃ y, y = ids.getD j 0 := ⟨_, rfl⟩
        have c1 : wr.cell? ⟨gk, j, none⟩ = some (.string s) := by
          have := (HK2.out.chg hcg (by simp)).cell j (by simpa using hlt)
          rw [this, List.getElem_map, hs]
        have c2 : wr.cell? ⟨gi, j, none⟩ = some (.int .i64 y) := by
          have := (HI2.out.chg hcg (by simp)).cell j (by simpa using hji)
          rw [this, List.getElem_map, hy, List.getD_eq_getElem?_getD, List.getElem?_eq_getElem hji]; rfl
        have k1 : decide ((0:Int) ≤ (j:Int)) = true := decide_eq_true (by omega)
        have k2 : decide ((j:Int) < (kw.length:Int)) = true := decide_eq_true (by omega)
        have k3 : decide ((j:Int) < (ids.length:Int)) = true := decide_eq_true (by omega)
        obtain ⟨S, hS1, hS2⟩ := HFI.out
        have HS1 := Aside0.mk hS1
        have HS2 := Aside0.mk hS2
        have HS := Aside0.mk hs
        have HY := Aside0.mk hy
        clear hs hy hcg hS1 hS2 HFI
        go_wp2_with (at_mapUpdate; refine wpList_mapUpdate rfl _ _ _ _ rfl rfl s rfl (.int .i64 y) rfl HS1.out (keyStr Try.underlying9) Try.underlying73 ?_; intro w4 m4 h4 z4; have HF4 := Aside0.mk (Filled.put HS2.out H.out.nd hlt HS.out HY.out m4); have HC4 : Aside0 (Chg [w2.heap.size] (w2.alloc (.map #[] 0)) w4) := ⟨HCR.out.trans h4⟩; clear m4 h4 z4)
        go_roundw
        case rel => exact ⟨j + 1, by go_num, ⟨by omega⟩, HF4, HC4⟩
        case measure => simp [intOf]; omega
      · have hj : j = kw.length := by have := HJ.out; omega
        have k1 : decide (j < kw.length) = false := decide_eq_false hlt
        have k2 : decide ((j:Int) < (kw.length:Int)) = false := decide_eq_false (by omega)
        have hFF := HFI.out
        rw [hj] at hFF
        have HFF := Aside0.mk hFF
        have HCG := Aside0.mk hcg
        clear hj hFF hcg HFI HJ HCR HC0
        go_wp2_with fail
        refine (sort_any wr gk ck kw (HK2.out.chg HCG.out (by simp)) (by omega)).mono ?_
        rintro e w3 ⟨rfl, kx, hp, hsx, hkx, hcx⟩
        have HP := Aside0.mk hp
        have HSX := Aside0.mk hsx
        have HKX := Aside0.mk hkx
        have hm2 : w2.heap.size < wr.heap.size := by obtain ⟨S, q, _⟩ := HFF.out; exact q.lt
        have HFG := Aside0.mk (show ∃ S : List (ByteArray × Value), MapAt w3 w2.heap.size (fun s : ByteArray => Value.string s) S ∧ ∀ s ∈ kw, getL S s = some (.int .i64 (idOf kw ids s)) from by
          obtain ⟨S, q1, q2⟩ := HFF.out.get H.out.nd
          exact ⟨S, q1.chg hcx (by have := HSZ2.out; simp; omega), q2⟩)
        have HLX : Aside0 (kx.length = kw.length) := ⟨hp.length_eq⟩
        have HC3 : Aside0 (Chg [gk, gi] w w3) := ⟨((HC2.out.mono (by simp)).above HCG.out (by simp) : Chg [gk, gi] w wr).above hcx (by simp)⟩
        have HG2 : Aside0 (Chg [gk] w2 w3) := ⟨(HCG.out.mono (by simp)).trans hcx⟩
        have HI3 := Aside0.mk (HI2.out.chg HG2.out (fun g hg => by cases hg; simpa using fun q => H.out.ne q.symm))
        have HSZ3 : Aside0 (w.heap.size + 3 ≤ w3.heap.size) := ⟨by have := HSZ2.out; have := HG2.out.size; omega⟩
        have hkl : kx.length ≤ 30 := by rw [HLX.out]; exact hmost
        have hR0 := ORow.cut0 HI3.out
        have HR0 := Aside0.mk hR0
        clear hp hsx hkx hcx hm2 HFF HCG hR0
        go_wp2_with fail
        go_loopw [1, 51] (fun v1 v51 wr => ∃ j : Nat, v51 = .int .i64 j ∧ Aside0 (j ≤ kx.length) ∧ Aside0 (ORow wr 3 v1 ((kx.take j).map (fun u => .int .i64 (idOf kw ids u)))) ∧ Aside0 (Chg [gi] w3 wr) ∧ Aside0 (v1.ownBlock = some gi ∨ ∃ g, v1.ownBlock = some g ∧ w3.heap.size ≤ g)) (fun _ v51 _ => kx.length - (intOf v51).toNat)
        case atStart => exact ⟨0, rfl, ⟨Nat.zero_le _⟩, HR0, ⟨Chg.refl _ _⟩, ⟨.inl rfl⟩⟩
        case round =>
          clear HR0
          obtain ⟨j, rfl, HJ, HRJ, HCJ, HBJ⟩ := hrel
          by_cases hlt : j < kx.length
          · obtain ⟨s, hs⟩ : ∃ s, s = kx[j] := ⟨_, rfl⟩
            have hsm : s ∈ kw := HP.out.mem_iff.1 (by rw [hs]; exact List.getElem_mem _)
            obtain ⟨S, hS1, hS2⟩ := HFG.out
            have hgm : w2.heap.size ≠ gi := by have := HSZ2.out; omega
            have HS1 := Aside0.mk (hS1.chg HCJ.out (by simpa using hgm))
            have HS2 := Aside0.mk (hS2 s hsm)
            have c1 : wr.cell? ⟨gk, j, none⟩ = some (.string s) := by
              have := (HKX.out.chg HCJ.out (fun g hg => by cases hg; simpa using H.out.ne)).cell j (by simpa using hlt)
              rw [this, List.getElem_map, hs]
            obtain ⟨y, hy⟩ : ∃ y, y = idOf kw ids s := ⟨_, rfl⟩
            have HT := Aside0.mk (show (kx.take (j + 1)).map (fun u => Value.int .i64 (idOf kw ids u)) = (kx.take j).map (fun u => Value.int .i64 (idOf kw ids u)) ++ [.int .i64 y] by rw [List.take_succ_eq_append_getElem hlt, ← hs, List.map_append, hy]; rfl)
            have HLT := Aside0.mk (show ((kx.take j).map (fun u => Value.int .i64 (idOf kw ids u))).length = j by rw [List.length_map, List.length_take]; omega)
            have k1 : decide ((0:Int) ≤ (j:Int)) = true := decide_eq_true (by omega)
            have k2 : decide ((j:Int) < (kw.length:Int)) = true := decide_eq_true (by rw [← HLX.out]; omega)
            have k3 : j < kw.length := by rw [← HLX.out]; omega
            obtain ⟨A, cp, e, hl1, hl2, hl3⟩ := HRJ.out.slice
            rw [HLT.out] at e hl1
            subst e
            have HS3 : Aside0 (getL S s = some (.int .i64 y)) := ⟨by rw [HS2.out, hy]⟩
            clear hs hy hgm hS1 hS2 hsm hl2 hl3 HS2
            go_wp2_with (first | (at_lookup; refine wpList_lookup rfl _ _ _ false rfl rfl s rfl HS1.out (keyStr Try.underlying9) Try.underlying73 (.int .i64 0) zeroI ?_; rw [if_neg (by decide), HS3.out]) | (at_builtin; refine wpList_append1 rfl _ _ 23 rfl 3 (.int .i64 0) 8 Try.underlying23 info3 rfl _ ((kx.take j).map (fun u => Value.int .i64 (idOf kw ids u))) rfl (HRJ.out.chg ((Chg.refl [] wr).alloc _) (fun _ _ => by simp)) wr.heap.size (.int .i64 y) rfl (cell_box wr _ _) rfl ?s1 ?s2 ?_; (case s1 => (rw [HLT.out]; omega)); (case s2 => (rw [HLT.out]; unfold maxLen; omega)); intro v4 w4 hr4 hc4 ho4; have HR4 := Aside0.mk hr4; have HC4 := Aside0.mk hc4; have HO4 := Aside0.mk ho4; clear hr4 hc4 ho4))
            go_roundw
            case rel =>
              refine ⟨j + 1, by go_num, ⟨by omega⟩, ⟨by rw [HT.out]; exact HR4.out⟩, ⟨(HCJ.out.alloc _).above HC4.out (fun q hq => ?_)⟩, ⟨?_⟩⟩
              all_goals have HB := HBJ.out
              all_goals clear HBJ
              · change q ∈ (Value.slice A j cp).ownBlock.toList at hq
                rcases HB with h | ⟨g, h, h2⟩
                · rw [h] at hq; exact .inl (by simpa using hq)
                · rw [h] at hq
                  have : q = g := by simpa using hq
                  exact .inr (by omega)
              · rcases (show v4.ownBlock = (Value.slice A j cp).ownBlock ∨ v4.ownBlock = some (wr.alloc (.cells #[.int .i64 y] 3)).heap.size from HO4.out) with h | h
                · rw [h]; exact HB
                · refine .inr ⟨_, h, ?_⟩
                  rw [size_alloc]
                  have := HCJ.out.size
                  omega
            case measure => simp [intOf]; omega
          · have hj : j = kx.length := by have := HJ.out; omega
            have hrw := HRJ.out
            obtain ⟨ix, hix⟩ : ∃ ix, ix = kx.map (idOf kw ids) := ⟨_, rfl⟩
            rw [hj, List.take_length, show (kx.map (fun u => Value.int .i64 (idOf kw ids u))) = (kx.map (idOf kw ids)).map (Value.int .i64) by rw [List.map_map]; rfl, ← hix] at hrw
            have hil : ix.length = kx.length := by rw [hix, List.length_map]
            obtain ⟨gx, cx, e, hcx⟩ := own_slice (n := ix.length) hrw (by intro q; have := congrArg List.length q; rw [List.length_map, List.length_nil, hil, HLX.out] at this; omega) (List.length_map _)
            subst e
            have HCX6 := Aside0.mk hcx
            have HGX : Aside0 (gx ≠ w.heap.size + 2) := ⟨by
              have := HSZ3.out
              rcases HBJ.out with h | ⟨g, h, h2⟩
              · injection h with h; dsimp only at h; omega
              · injection h with h; dsimp only at h; omega⟩
            have HSZX : Aside0 (w.heap.size + 3 ≤ wr.heap.size) := ⟨by have := HSZ3.out; have := HCJ.out.size; omega⟩
            have HC6' : Aside0 (Chg [gk, gi] w wr) := ⟨HC3.out.above HCJ.out (by simp)⟩
            have HA6 := Aside0.mk ((HA2.out.chg HG2.out (by simp; omega) (by simp; omega)).chg HCJ.out (by simp; omega) (by simp; omega))
            have HKX6 := Aside0.mk (HKX.out.chg HCJ.out (fun g hg => by cases hg; simpa using H.out.ne))
            have HIL : Aside0 (ix.length = kx.length) := ⟨hil⟩
            have HID : Aside0 (∀ x, x < kx.length → ix.getD x 0 = idOf kw ids (wd kx x)) := ⟨fun x hx => by
              rw [hix]
              rw [List.getD_eq_getElem?_getD, List.getElem?_map, List.getElem?_eq_getElem hx, wd_get kx hx]; rfl⟩
            have HBI : Aside0 (∀ x ∈ ix, 0 ≤ x ∧ x ≤ 1100000) := ⟨fun x hx => by
              rw [hix] at hx
              obtain ⟨u, _, rfl⟩ := List.mem_map.1 hx
              unfold idOf
              rw [List.getD_eq_getElem?_getD]
              cases hg : ids[kw.idxOf u]? with
              | none => simp
              | some y => exact H.out.ids2 y (List.mem_of_getElem? hg)⟩
            have k1 : decide (j < kw.length) = false := decide_eq_false (by rw [← HLX.out]; exact hlt)
            have k2 : decide ((j:Int) < (kw.length:Int)) = false := decide_eq_false (by rw [← HLX.out]; omega)
            have HI6 : Aside0 (ORow wr 3 (.slice (some ⟨gx, 0, none⟩) ix.length cx) (ix.map (Value.int .i64))) := ⟨hrw⟩
            clear hj hrw hcx hix hil HRJ HBJ HJ HCJ HG2 HA2 HFG HC3 HI3 HSZ3 HKX
            have HKX := HKX6
            obtain ⟨w6, rfl⟩ : ∃ w6, w6 = wr := ⟨_, rfl⟩
            have HL : Aside0 (kx.length = kw.length) := ⟨HP.out.length_eq⟩
            have hgX : w.heap.size + 3 ≤ w6.heap.size := HSZX.out
            have HB3 : Aside0 (∀ w3, w3 = w6.alloc (.cells (madeCells #[.int .i64 0] (kw.length * 1)) 3) → w3.heap[w6.heap.size]? = some (.cells (brow kw.length 0) 3 (0, 0))) := ⟨fun w3 e => by rw [e, heap_alloc_new, brow_zero]⟩
            go_wp2_with (at_make; refine wpList_make rfl _ _ _ rfl 3 (.int .i64 0) 1 8 Try.underlying23 info3 .i64 .i64 (kw.length : Int) (kw.length : Int) rfl rfl (by omega) (by omega) (by omega) (by omega) ?_; intro w3 e3; have HR3 := Aside0.mk (HB3.out w3 e3); have HC3 : Aside0 (Chg [] w6 w3) := ⟨by rw [e3]; exact (Chg.refl [] w6).alloc _⟩; clear e3 HB3)
            go_loopw [67] (fun v67 wr => ∃ i : Nat, v67 = .int .i64 i ∧ Aside0 (i ≤ kw.length) ∧ Aside0 (wr.heap[w6.heap.size]? = some (.cells (brow kw.length i) 3 (0, 0))) ∧ Aside0 (Chg [w6.heap.size] w3 wr)) (fun v67 _ => kw.length - (intOf v67).toNat)
            case atStart => exact ⟨0, rfl, ⟨Nat.zero_le _⟩, HR3, ⟨Chg.refl _ _⟩⟩
            case round =>
              clear HR3
              obtain ⟨i, rfl, HI0, HR, HCR⟩ := hrel
              by_cases hlt : i < kw.length
              · have c1 : wr.cell? ⟨w6.heap.size, i, none⟩ = some (.int .i64 0) := by
                  simp [World.cell?, HR.out, brow_get, hlt]
                have f1 : wr.frozen? ⟨w6.heap.size, i, none⟩ = false := by simp [World.frozen?, HR.out]
                have k1 : decide ((0:Int) ≤ (i:Int)) = true := decide_eq_true (by omega)
                have k2 : decide ((i:Int) < (kw.length:Int)) = true := decide_eq_true (by omega)
                have HR4 : Aside0 ((wr.setCell ⟨w6.heap.size, i, none⟩ (.int .i64 i)).heap[w6.heap.size]? = some (.cells (brow kw.length (i + 1)) 3 (0, 0))) := ⟨by
                  have := heap_put wr ⟨w6.heap.size, i, none⟩ _ _ _ (.int .i64 i) HR.out rfl
                  rw [this, brow_set]⟩
                go_wp2_with fail
                go_roundw
                case rel => exact ⟨i + 1, by go_num, ⟨by omega⟩, HR4, ⟨HCR.out.setCell (.inl (by simp)) _⟩⟩
                case measure => simp [intOf]; omega
              · have hi : i = kw.length := by have := HI0.out; omega
                have hrow := HR.out
                rw [hi] at hrow
                have k1 : decide (i < kw.length) = false := decide_eq_false hlt
                have k2 : decide ((i:Int) < (kw.length:Int)) = false := decide_eq_false (by omega)
                have hcx : Chg [w6.heap.size] w6 wr := (HC3.out.mono (by simp)).trans HCR.out
                have hcx0 : Chg [] w6 wr := hcx.above (Chg.refl [] _) (by simp) |> fun q => ⟨q.os, q.tape, q.output, q.size, fun j hj _ => hcx.block j hj (by simp; omega)⟩
                have hfit : Fit kx 41 0 (List.range kx.length) := fit_of kx HSX.out 40 (fun s hs => H.out.sz s (HP.out.mem_iff.1 hs)) (fun s hs => H.out.nz s (HP.out.mem_iff.1 hs)) 41 0 _ (by rw [HL.out]; intro e; have := congrArg List.length e; rw [List.length_range, List.length_nil] at this; omega) (List.pairwise_lt_range) (fun x hx => ⟨by simpa using hx, Nat.zero_le _⟩) (fun _ _ _ _ j hj => by omega) (by omega)
                have HFIT := Aside0.mk hfit
                have HAD := Aside0.mk (add_calls kx ix 41 wr (w.heap.size + 1) (w.heap.size + 2) 51200 (B0 51200) (C0 51200) 0 0 (List.range kx.length) w6.heap.size kw.length gk ck gx cx [] ⟨HA6.out.chg hcx0 (by simp) (by simp), by rw [HL.out]; exact brow_row hrow, by
                  have := HKX.out.chg hcx0 (fun _ _ => by simp)
                  exact RowAt.of_row this, by
                  have := HI6.out.chg hcx0 (fun _ _ => by simp)
                  exact RowAt.of_row this, ⟨by omega, by omega, HGX.out⟩, ⟨by rw [List.length_range, HL.out]; exact Nat.le_refl _, by rw [HL.out]; exact hkc, HCX6.out⟩, by omega, by omega, inv_init 51200 (by omega), fun r a b c => by have := C0_neg 51200 r a b; omega, by
                  have := cnt_le kx (fun s hs => H.out.sz s (HP.out.mem_iff.1 hs)) (List.range kx.length)
                  rw [List.length_range, HL.out] at this
                  rw [HL.out]
                  simp only [List.length_nil]
                  omega, by rw [List.length_range, HL.out]; exact hmost, by omega, .inl rfl, fun _ => ⟨rfl, fun r a b => C0_neg 51200 r a b⟩, fun r a b => by have := C0_neg 51200 r a b; omega, hfit, by omega, by rw [HL.out]; exact hmost, HIL.out, HBI.out, fun s hs => by have := H.out.sz s (HP.out.mem_iff.1 hs); omega, fun s hs => H.out.nz s (HP.out.mem_iff.1 hs)⟩)
                rw [List.length_range, HL.out] at HAD
                have HCX := Aside0.mk hcx0
                clear hi hrow hcx hcx0 hfit HI0 HR
                go_wp2_with fail
                refine HAD.out.mono ?_
                rintro e w4 ⟨rfl, B4, C4, ha4, hc4, hA4⟩
                have HC5 : Aside0 (Chg [gk, gi] w w4) := ⟨by
                  have h1 : Chg [gk, gi] w w6 := HC6'.out
                  exact (h1.above HCX.out (by simp)).above hc4 (fun q hq => .inr (by rw [List.mem_singleton.1 hq]; omega))⟩
                have HSZ4 : Aside0 (w6.heap.size ≤ w4.heap.size) := ⟨Nat.le_trans HCX.out.size hc4.size⟩
                have HA4 := Aside0.mk ha4
                have HAA := Aside0.mk hA4
                clear ha4 hc4 hA4 HAD HCX
                go_wp2_with fail
                refine (truncate_calls w4 _ _ _ _ _ HA4.out (by omega)).mono ?_
                rintro e w5 ⟨rfl, m, b', hm1, hm2, ha5, hc5, hs5⟩
                have HC6 : Aside0 (Chg [gk, gi] w w5) := ⟨HC5.out.above hc5 (fun q hq => .inr (by rw [List.mem_singleton.1 hq]; omega))⟩
                have HA5 := Aside0.mk ha5
                have hcell := ha5.cell
                have HTR : Aside0 (TrieOk kw ids m B4 C4) := ⟨by
                  have hAA := HAA.out
                  rw [← HL.out] at hAA
                  exact trie_ok hAA hm1 hm2 HFIT.out HP.out H.out.nd HID.out H.out.ids2 H.out.len H.out.nz⟩
                have HM1 := Aside0.mk hm1
                have HBB : Aside0 (w.heap.size ≤ b') := ⟨by have := HSZ4.out; rcases hs5 with q | q <;> omega⟩
                clear ha5 hc5 hm1 hm2 HA4 HAA HC5 hs5
                go_wp2_with fail
                go_ret2
                exact ⟨_, rfl, b', m, B4, C4, rfl, HA5.out.row, HBB.out, by have := HM1.out; omega, HTR.out, HC6.out⟩
end Go.Proofs.Ytddcjmdcpkmnjab.Da
namespace Go.Proofs.Ytddcjmdcpkmnjab.Gn
open Go.RowKit Go.Proofs.YtddcjmdcpkmnjabW.PrintWords Go.Proofs.YtddcjmdcpkmnjabW.PrintLast Go.Proofs.YtddcjmdcpkmnjabW.PrintMore
/-- 'append(s, x...)' where x is a row that came in. -/
theorem wpList_appendAll {P : Program} {α : Type} {enc : α → Value} {he : ∀ x, (enc x).oneCell' = true} {w : World} {ops : Array Oper} {rest : List Oper} {o : Oper} {a : Act} {Q : Exit → Act → World → Prop} (hgd : o.guard = none) (s x : Operand) (t : TypeId)
    (ho : o.op = .call { callee := .builtin .append, args := #[s, x], argTypes := #[t, t] })
    (e : TypeId) (z : Value) (bytes : Nat) (ht : P.underlying t = some (.slice e)) (hi : (P.info? e).map (fun i => (i.zero, i.size, i.bytes)) = some (some z, 1, bytes)) (hzs : z.cells.size = 1)
    (v : Value) (xs : List Value) (hs : a.eval s = v) (hown : ORow w e v xs)
    (A : Option Addr) (c : Nat) (ys : List α) (hx : a.eval x = .slice A ys.length c) (hC : (Kd.scalar enc he).C w A ys.length ys) (hne : 0 < ys.length)
    (hl : (xs.length + ys.length) * bytes ≤ 140737488355328) (hl2 : xs.length + ys.length ≤ maxLen)
    (h : ∀ v' w', ORow w' e v' (xs ++ ys.map enc) → Chg v.ownBlock.toList w w' → (v'.ownBlock = v.ownBlock ∨ v'.ownBlock = some w.heap.size) → wpList P ops Q rest (a.put o.dst v') w') :
    wpList P ops Q (o :: rest) a w := by
  obtain ⟨i, hi1, hi2, hi3, hi4⟩ := info_parts hi
  obtain ⟨_, _, hcc⟩ := hC
  obtain ⟨ad, rfl, hcells⟩ := hcc hne
  refine wpList_append_own_at w hgd s x t ho 0 e i z 1 bytes ht hi1 hi2 hi3 hi4 hzs (by omega) v xs.length xs hs hown ad ys.length c (ys.map enc) hx (by simp) (fun j u hj => ?_) (fun u hu => ?_) hl2 hl (Nat.zero_le _) ?_
  · rw [List.getElem?_map] at hj
    obtain ⟨p, hp, rfl⟩ := Option.map_eq_some_iff.1 hj
    obtain ⟨cs, h1, h2, h3⟩ := hcells j p hp
    have h2 : cs = [enc p] := h2
    have := h3 0 (enc p) (by rw [h2]; rfl)
    have e1 : j * 1 + 0 = j := by omega
    have this : w.cell? (ad.add (j * 1 + 0)) = some (enc p) := this
    rwa [e1] at this
  · obtain ⟨p, _, rfl⟩ := List.mem_map.1 hu
    exact he p
  · intro v' w' h2 h3 _ h5
    exact h v' w' (by unfold ORow; simpa using h2) (grownBy_chg h3) h5
theorem ORow.made0 (w : World) (e : Nat) : ORow (w.alloc (.cells #[] e)) e (.slice (some ⟨w.heap.size, 0, none⟩) 0 0) [] :=
  ORow.of (xs := []) (cap := 0) (heap_alloc_new _ _) (Nat.le_refl _) (by unfold maxLen; omega) rfl rfl
end Go.Proofs.Ytddcjmdcpkmnjab.Gn
namespace Go.Proofs.Ytddcjmdcpkmnjab.Da
open Go.RowKit Go.Proofs.YtddcjmdcpkmnjabW.PrintWords Go.Proofs.YtddcjmdcpkmnjabW.PrintLast Go.Proofs.YtddcjmdcpkmnjabW.PrintMore Go.Proofs.Ytddcjmdcpkmnjab.Gn
theorem info9 : (Try.prog.info? 9).map (fun i => (i.zero, i.size, i.bytes)) = some (some (.string ⟨#[]⟩), 1, 16) := by kernel_rfl
/-- Words and numbers that make a double array. -/
structure Good (kw : List ByteArray) (ids : List Int) : Prop where
  len : ids.length = kw.length
  pos : 0 < kw.length
  most : kw.length ≤ 30
  nd : kw.Nodup
  ids2 : ∀ x ∈ ids, 0 ≤ x ∧ x ≤ 1100000
  sz : ∀ s ∈ kw, s.size ≤ 40
  nz : ∀ s ∈ kw, ∀ j, j < s.size → (s.get! j).toNat ≠ 0
/-- From 1 on. -/
def nums (n : Nat) : List Int := (List.range n).map fun i : Nat => (i : Int) + 1
def nrow (L i : Nat) : Array Value := Array.ofFn (n := L) fun q => .int .i64 (if q.val < i then (q.val : Int) + 1 else 0)
theorem nrow_get (L i q : Nat) : (nrow L i)[q]? = if q < L then some (.int .i64 (if q < i then (q : Int) + 1 else 0)) else none := by
  by_cases h : q < L
  · rw [if_pos h]; simp [nrow, h]
  · rw [if_neg h]; simp [nrow]; omega
theorem nrow_zero (L : Nat) : madeCells #[.int .i64 0] (L * 1) = nrow L 0 := by
  apply Array.ext_getElem?
  intro q
  rw [nrow_get]
  unfold madeCells
  by_cases h : q < L
  · rw [if_pos h, Array.getElem?_map, Array.getElem?_range, if_pos (by omega)]
    simp [Nat.mod_one]
  · rw [if_neg h, Array.getElem?_eq_none (by simp; omega)]
theorem nrow_set (L i : Nat) : (nrow L i).setIfInBounds i (.int .i64 ((i : Int) + 1)) = nrow L (i + 1) := by
  apply Array.ext_getElem?
  intro q
  rw [Array.getElem?_setIfInBounds, nrow_get, nrow_get]
  by_cases e : i = q
  · subst e
    rw [if_pos rfl]
    have : (nrow L i).size = L := by simp [nrow]
    rw [this]
    by_cases h : i < L
    · rw [if_pos h, if_pos h, if_pos (by omega)]
    · rw [if_neg h, if_neg h]
  · rw [if_neg e]
    by_cases h : q < L
    · rw [if_pos h, if_pos h]
      by_cases h2 : q < i
      · rw [if_pos h2, if_pos (by omega)]
      · rw [if_neg h2, if_neg (by omega)]
    · rw [if_neg h, if_neg h]
theorem nrow_row {w : World} {g L : Nat} (h : w.heap[g]? = some (.cells (nrow L L) 3 (0, 0))) (hL : L ≤ 1000) : ORow w 3 (.slice (some ⟨g, 0, none⟩) (nums L).length L) ((nums L).map (Value.int .i64)) := by
  have hl : ((nums L).map (Value.int .i64)).length = L := by simp [nums]
  have e1 : (nums L).length = ((nums L).map (Value.int .i64)).length := by simp
  rw [e1]
  refine ORow.of h (by omega) (by unfold maxLen; omega) (by simp [nrow]) ?_
  rw [hl]
  apply List.ext_getElem?
  intro j
  rw [List.getElem?_take, Array.getElem?_toList, nrow_get]
  by_cases hj : j < L
  · simp [hj, nums]
  · rw [if_neg hj, List.getElem?_eq_none (by omega)]
theorem Built.from {w w1 w' : World} {S : List Nat} {kw : List ByteArray} {ids : List Int} {v : Value} {T : List Nat} (h : Built w1 w' S kw ids v) (hc : Chg T w w1) (hs : ∀ g ∈ S, g ∈ T ∨ w.heap.size ≤ g) : Built w w' T kw ids v := by
  obtain ⟨b, m, B, C, h1, h2, h3, h4, h5, h6⟩ := h
  exact ⟨b, m, B, C, h1, h2, Nat.le_trans hc.size h3, h4, h5, hc.above h6 hs⟩
set_option maxHeartbeats 2000000 in
set_option maxRecDepth 100000 in
theorem sbuild_calls (w : World) (gk ck : Nat) (kw : List ByteArray) (hk : ORow w 9 (.slice (some ⟨gk, 0, none⟩) kw.length ck) (kw.map Value.string)) (hg : Good kw (nums kw.length)) :
    Calls Try.prog 39 #[.slice (some ⟨gk, 0, none⟩) kw.length ck] w fun e w' => ∃ v, e = .returned (.tuple #[v, .nilIface]) ∧ Built w w' [gk] kw (nums kw.length) v := by
  have HK := Aside0.mk hk
  have HG := Aside0.mk hg
  have hpos := hg.pos
  have hmost := hg.most
  have hgk : gk < w.heap.size := (hk.block rfl).1
  have q3 : (((kw.length : Nat) : Int) == 0) = false := beq_eq_false_iff_ne.2 (by omega)
  have q4 : (kw.length == 0) = false := beq_eq_false_iff_ne.2 (by omega)
  have HB3 : Aside0 (∀ w3, w3 = w.alloc (.cells (madeCells #[.int .i64 0] (kw.length * 1)) 3) → w3.heap[w.heap.size]? = some (.cells (nrow kw.length 0) 3 (0, 0))) := ⟨fun w3 e => by rw [e, heap_alloc_new, nrow_zero]⟩
  clear hk hg
  go_enter Try.func39, Try.ntmps39
  go_wp2_with (at_make; refine wpList_make rfl _ _ _ rfl 3 (.int .i64 0) 1 8 Try.underlying23 info3 .i64 .i64 (kw.length : Int) (kw.length : Int) rfl rfl (by omega) (by omega) (by omega) (by omega) ?_; intro w3 e3; have HR3 := Aside0.mk (HB3.out w3 e3); have HC3 : Aside0 (Chg [] w w3) := ⟨by rw [e3]; exact (Chg.refl [] w).alloc _⟩; clear e3 HB3)
  go_loopw [16] (fun v16 wr => ∃ i : Nat, v16 = .int .i64 i ∧ Aside0 (i ≤ kw.length) ∧ Aside0 (wr.heap[w.heap.size]? = some (.cells (nrow kw.length i) 3 (0, 0))) ∧ Aside0 (Chg [w.heap.size] w3 wr)) (fun v16 _ => kw.length - (intOf v16).toNat)
  case atStart => exact ⟨0, rfl, ⟨Nat.zero_le _⟩, HR3, ⟨Chg.refl _ _⟩⟩
  case round =>
    clear HR3
    obtain ⟨i, rfl, HI0, HR, HCR⟩ := hrel
    by_cases hlt : i < kw.length
    · have c1 : wr.cell? ⟨w.heap.size, i, none⟩ = some (.int .i64 0) := by
        simp [World.cell?, HR.out, nrow_get, hlt]
      have f1 : wr.frozen? ⟨w.heap.size, i, none⟩ = false := by simp [World.frozen?, HR.out]
      have k1 : decide ((0:Int) ≤ (i:Int)) = true := decide_eq_true (by omega)
      have k2 : decide ((i:Int) < (kw.length:Int)) = true := decide_eq_true (by omega)
      have HR4 : Aside0 ((wr.setCell ⟨w.heap.size, i, none⟩ (.int .i64 ((i : Int) + 1))).heap[w.heap.size]? = some (.cells (nrow kw.length (i + 1)) 3 (0, 0))) := ⟨by
        have := heap_put wr ⟨w.heap.size, i, none⟩ _ _ _ (.int .i64 ((i : Int) + 1)) HR.out rfl
        rw [this, nrow_set]⟩
      go_wp2_with fail
      go_roundw
      case rel => exact ⟨i + 1, by go_num, ⟨by omega⟩, HR4, ⟨HCR.out.setCell (.inl (by simp)) _⟩⟩
      case measure => simp [intOf]; omega
    · have hi : i = kw.length := by have := HI0.out; omega
      have hrow := HR.out
      rw [hi] at hrow
      have k1 : decide (i < kw.length) = false := decide_eq_false hlt
      have k2 : decide ((i:Int) < (kw.length:Int)) = false := decide_eq_false (by omega)
      have hcx : Chg [w.heap.size] w wr := (HC3.out.mono (by simp)).trans HCR.out
      have hcx0 : Chg [] w wr := ⟨hcx.os, hcx.tape, hcx.output, hcx.size, fun j hj _ => hcx.block j hj (by simp; omega)⟩
      have HB := Aside0.mk (build_calls wr gk ck w.heap.size kw.length kw (nums kw.length) ⟨HK.out.chg hcx0 (by simp), nrow_row hrow (by omega), by omega, HG.out.len, hpos, hmost, HG.out.nd, HG.out.ids2, HG.out.sz, HG.out.nz⟩)
      rw [show (nums kw.length).length = kw.length from HG.out.len] at HB
      have HCX := Aside0.mk hcx0
      clear hi hrow hcx hcx0 HI0 HR
      go_wp2_with fail
      refine HB.out.mono ?_
      rintro e w4 ⟨v, rfl, hb⟩
      have HBB : Aside0 (Built w w4 [gk] kw (nums kw.length) v) := ⟨hb.from (HCX.out.mono (by simp)) (by simp)⟩
      clear hb HB HCX
      go_wp2_with fail
      go_ret2
      exact ⟨v, rfl, HBB.out⟩
def idsOr (kw : List ByteArray) (ids : List Int) : List Int := if ids.length = 0 then nums kw.length else ids
set_option maxHeartbeats 2000000 in
set_option maxRecDepth 100000 in
theorem built_calls (w : World) (A0 A1 : Option Addr) (c0 c1 : Nat) (kw : List ByteArray) (ids : List Int) (hk : Kd.C Kd.string w A0 kw.length kw) (hi : Kd.C (Kd.int .i64) w A1 ids.length ids) (hg : Good kw (idsOr kw ids)) :
    Calls Try.prog 26 #[.slice A0 kw.length c0, .slice A1 ids.length c1] w fun e w' => ∃ v, e = .returned (.tuple #[v, .nilIface]) ∧ Built w w' [] kw (idsOr kw ids) v := by
  have HK := Aside0.mk hk
  have HI := Aside0.mk hi
  have HG := Aside0.mk hg
  have hpos := hg.pos
  have hmost := hg.most
  have HR0 : Aside0 (ORow (w.alloc (.cells #[] 9)) 9 (.slice (some ⟨w.heap.size, 0, none⟩) 0 0) []) := ⟨ORow.made0 _ _⟩
  clear hk hi
  by_cases h0 : ids.length = 0
  · have hid : idsOr kw ids = nums kw.length := if_pos h0
    rw [hid] at hg HG ⊢
    clear hid
    have q1 : (((ids.length : Nat) : Int) == 0) = true := beq_iff_eq.2 (by omega)
    have q2 : (ids.length == 0) = true := beq_iff_eq.2 h0
    clear hg
    go_enter Try.func26, Try.ntmps26
    go_wp2_with (at_builtin; refine wpList_appendAll (enc := Value.string) (he := fun _ => rfl) rfl _ _ 22 rfl 9 (.string ⟨#[]⟩) 16 Try.underlying22 info9 rfl (.slice (some ⟨w.heap.size, 0, none⟩) 0 0) [] rfl HR0.out A0 c0 kw rfl ?c1 hpos ?c2 ?c3 ?_; (case c1 => exact Kd.C_below HK.out ((Below.refl _ _).alloc (Nat.le_refl _) _)); (case c2 => (simp; omega)); (case c3 => (unfold maxLen; simp; omega)); intro v2 w2 hr2 hc2 ho2; obtain ⟨gk, ck, rfl, hck⟩ := own_slice (n := kw.length) hr2 (by intro q; have := congrArg List.length q; simp only [List.nil_append, List.length_map, List.length_nil] at this; omega) (by simp); have HR2 := Aside0.mk hr2; have HC2 := Aside0.mk hc2; have HO2 := Aside0.mk ho2; clear hr2 hc2 ho2)
    have HCX : Aside0 (Chg [] w w2) := ⟨((Chg.refl [] w).alloc _).above HC2.out (fun g hg => .inr (by have : g = w.heap.size := (by simpa [Value.ownBlock] using hg); omega))⟩
    have hgk : w.heap.size ≤ gk := by
      rcases HO2.out with h | h
      · have h : gk = w.heap.size := by injection h
        omega
      · have h : gk = w.heap.size + 1 := by injection h with h; rw [size_alloc] at h; exact h
        omega
    have HB := Aside0.mk (sbuild_calls w2 gk ck kw HR2.out HG.out)
    clear HR0 HR2 HC2 HO2
    go_wp2_with fail
    refine HB.out.mono ?_
    rintro e w4 ⟨v, rfl, hb⟩
    have HBB : Aside0 (Built w w4 [] kw (nums kw.length) v) := ⟨hb.from HCX.out (fun g hg => .inr (by rw [List.mem_singleton.1 hg]; exact hgk))⟩
    clear hb HB HCX
    go_wp2_with fail
    go_ret2
    exact ⟨v, rfl, HBB.out⟩
  · have hid : idsOr kw ids = ids := if_neg h0
    rw [hid] at hg HG ⊢
    clear hid
    have q1 : (((ids.length : Nat) : Int) == 0) = false := beq_eq_false_iff_ne.2 (by omega)
    have q2 : (ids.length == 0) = false := beq_eq_false_iff_ne.2 h0
    have hil := hg.len
    have him : ids.length ≤ 30 := by omega
    have hip : 0 < ids.length := by omega
    clear hg hil
    go_enter Try.func26, Try.ntmps26
    go_wp2_with (first | (at_builtin; refine wpList_appendAll (enc := Value.string) (he := fun _ => rfl) rfl _ _ 22 rfl 9 (.string ⟨#[]⟩) 16 Try.underlying22 info9 rfl (.slice (some ⟨w.heap.size, 0, none⟩) 0 0) [] rfl HR0.out A0 c0 kw rfl ?c1 hpos ?c2 ?c3 ?_; (case c1 => exact Kd.C_below HK.out ((Below.refl _ _).alloc (Nat.le_refl _) _)); (case c2 => (simp; omega)); (case c3 => (unfold maxLen; simp; omega)); intro v2 w2 hr2 hc2 ho2; obtain ⟨gk, ck, rfl, hck⟩ := own_slice (n := kw.length) hr2 (by intro q; have := congrArg List.length q; simp only [List.nil_append, List.length_map, List.length_nil] at this; omega) (by simp); have HR2 := Aside0.mk hr2; have HC2 := Aside0.mk hc2; have HO2 := Aside0.mk ho2; clear hr2 hc2 ho2; have HCX : Aside0 (Chg [] w w2) := ⟨((Chg.refl [] w).alloc _).above HC2.out (fun g hg => .inr (by have : g = w.heap.size := (by simpa [Value.ownBlock] using hg); omega))⟩) | (at_builtin; refine wpList_appendAll (enc := Value.int .i64) (he := fun _ => rfl) rfl _ _ 23 rfl 3 (.int .i64 0) 8 Try.underlying23 info3 rfl (.slice (some ⟨w2.heap.size, 0, none⟩) 0 0) [] rfl (ORow.made0 _ _) A1 c1 ids rfl ?c1 hip ?c2 ?c3 ?_; (case c1 => exact Kd.C_below HI.out (HCX.out.toBelow (Nat.le_refl _) (by simp) |>.alloc HCX.out.size _)); (case c2 => (simp; omega)); (case c3 => (unfold maxLen; simp; omega)); intro v3 w3 hr3 hc3 ho3; obtain ⟨gi, ci, rfl, hci⟩ := own_slice (n := ids.length) hr3 (by intro q; have := congrArg List.length q; simp only [List.nil_append, List.length_map, List.length_nil] at this; omega) (by simp); have HR3 := Aside0.mk hr3; have HC3 := Aside0.mk hc3; have HO3 := Aside0.mk ho3; clear hr3 hc3 ho3))
    have HCY : Aside0 (Chg [] w w3) := ⟨(HCX.out.alloc _).above HC3.out (fun g hg => .inr (by have := HCX.out.size; have : g = w2.heap.size := (by simpa [Value.ownBlock] using hg); omega))⟩
    have hgk : w.heap.size ≤ gk ∧ gk < w2.heap.size := by
      have hlt : gk < w2.heap.size := (HR2.out.block rfl).1
      rcases HO2.out with h | h
      · have h : gk = w.heap.size := by injection h
        omega
      · have h : gk = w.heap.size + 1 := by injection h with h; rw [size_alloc] at h; exact h
        omega
    have hgi : w2.heap.size ≤ gi := by
      rcases HO3.out with h | h
      · have h : gi = w2.heap.size := by injection h
        omega
      · have h : gi = w2.heap.size + 1 := by injection h with h; rw [size_alloc] at h; exact h
        omega
    have hcz : Chg [] w2 w3 := ((Chg.refl [] w2).alloc _).above HC3.out (fun g hg => .inr (by have : g = w2.heap.size := (by simpa [Value.ownBlock] using hg); omega))
    have HB := Aside0.mk (build_calls w3 gk ck gi ci kw ids ⟨HR2.out.chg hcz (by simp), HR3.out, by omega, HG.out.len, hpos, hmost, HG.out.nd, HG.out.ids2, HG.out.sz, HG.out.nz⟩)
    clear HR0 HR2 HC2 HO2 HR3 HC3 HO3 hcz
    go_wp2_with fail
    refine HB.out.mono ?_
    rintro e w4 ⟨v, rfl, hb⟩
    have HBB : Aside0 (Built w w4 [] kw ids v) := ⟨hb.from HCY.out (fun g hg => .inr (by have := HCX.out.size; simp only [List.mem_cons, List.not_mem_nil, or_false] at hg; omega))⟩
    clear hb HB HCX HCY
    go_wp2_with fail
    go_ret2
    exact ⟨v, rfl, HBB.out⟩
end Go.Proofs.Ytddcjmdcpkmnjab.Da
namespace Go.Proofs.Ytddcjmdcpkmnjab.Da
open Go.RowKit Go.Proofs.YtddcjmdcpkmnjabW.PrintWords Go.Proofs.Ytddcjmdcpkmnjab.Gn
theorem results_tmp4 {fn : Func} {t u v x : Tmp} (h : fn.results = #[.tmp t, .tmp u, .tmp v, .tmp x]) (tmps : Array Value) (P : Program) (w : World) :
    (results fn tmps).run P w = .ok (.tuple #[tmps.getD t undef, tmps.getD u undef, tmps.getD v undef, tmps.getD x undef]) w := by
  simp [results, h]
theorem pre.shorter {s : ByteArray} {a b : Nat} {u : ByteArray} (h : pre s a u) (hb : b ≤ a) : pre s b u := ⟨Nat.le_trans hb h.1, fun i hi => h.2 i (by omega)⟩
/-- What search tells: the cell of the whole text, or that no word begins with it. -/
def Told (kw : List ByteArray) (ids : List Int) (m : Nat) (B C : Nat → Int) (s : ByteArray) (ok : Bool) (vq : Value) : Prop :=
  (ok = true → 0 < s.size ∧ ∃ t : Nat, vq = .int .i64 t ∧ On kw ids m B C s s.size t) ∧ (ok = false → s.size = 0 ∨ ∀ u ∈ kw, ¬ pre s s.size u)
def Searched (kw : List ByteArray) (ids : List Int) (m : Nat) (B C : Nat → Int) (s : ByteArray) (w : World) (e : Ending) (w' : World) : Prop :=
  ∃ vp vq vi ok, e = .returned (.tuple #[vp, vq, vi, .bool ok]) ∧ Told kw ids m B C s ok vq ∧ Drw w w'
set_option maxHeartbeats 2000000 in
set_option maxRecDepth 100000 in
theorem search_calls (w : World) (v b m : Nat) (B C : Nat → Int) (kw : List ByteArray) (ids : List Int) (s : ByteArray) (h : At w v b m B C) (hm : m ≤ 60000) (hT : TrieOk kw ids m B C) (hs : s.size ≤ 1000) (hnz : ∀ j, j < s.size → (s.get! j).toNat ≠ 0) :
    Calls Try.prog 41 #[.pointer (some ⟨v, 0, none⟩), .string s] w (Searched kw ids m B C s w) := by
  have H := Aside0.mk h
  have HT := Aside0.mk hT
  have HNZ := Aside0.mk hnz
  have d1 := h.cell
  clear h hT hnz
  by_cases hz : s.size = 0
  · have q1 : ((s.size : Int) == 0) = true := beq_iff_eq.2 (by omega)
    have q2 : (s.size == 0) = true := beq_iff_eq.2 hz
    have HZ := Aside0.mk hz
    clear hz
    go_enter Try.func41, Try.ntmps41
    go_wp2_with fail
    (try simp only [Exit.inBlock, Exit.then]); refine bodyPost_ret (results_tmp4 rfl _ _ _) rfl ?_
    exact ⟨_, _, _, _, rfl, ⟨fun h => (by cases h), fun _ => .inl HZ.out⟩, Drw.refl w⟩
  · have q1 : ((s.size : Int) == 0) = false := beq_eq_false_iff_ne.2 (by omega)
    have q2 : (s.size == 0) = false := beq_eq_false_iff_ne.2 hz
    have hz0 : 0 < s.size := by omega
    clear hz
    go_enter Try.func41, Try.ntmps41
    go_wp2_with fail
    go_loopw [5, 18] (fun v5 v18 wr => ∃ j t : Nat, v18 = .int .i64 j ∧ v5 = .int .i64 t ∧ Aside0 (j ≤ s.size) ∧ Aside0 (On kw ids m B C s j t) ∧ Aside0 (Drw w wr)) (fun _ v18 _ => s.size - (intOf v18).toNat)
    case atStart => exact ⟨0, 0, rfl, rfl, ⟨Nat.zero_le _⟩, ⟨On.start HT.out s⟩, ⟨Drw.refl w⟩⟩
    case round =>
      clear d1
      obtain ⟨j, t, rfl, rfl, HJ, HO, HD⟩ := hrel
      have HA := Aside0.mk (HD.out.at H.out)
      by_cases hlt : j < s.size
      · have htm := HO.out.lt
        have hb0 := HNZ.out j hlt
        obtain ⟨c, hc⟩ : ∃ c, c = (s.get! j).toNat := ⟨_, rfl⟩
        have hch : chAt s j = c := by unfold chAt; rw [if_pos hlt, hc]
        obtain ⟨base, e1, e2, e3, e4, e5⟩ := HO.out.step (by rw [hch, hc]; exact hb0)
        rw [hch] at e4 e5
        have HC := Aside0.mk hc
        have E4 := Aside0.mk e4
        have E5 := Aside0.mk e5
        have d1 := HA.out.cell
        have d2 := HA.out.base t htm
        rw [e1] at d2
        have hcs : (s[j]'hlt).toNat = c := by rw [hc]; show _ = (s.data[j]!).toNat; rw [getElem!_pos s.data j hlt]; rfl
        have hc0 : 0 < c := by omega
        have hc255 : c < 256 := by rw [← hcs]; exact UInt8.toNat_lt _
        have k1 : ((c:Int) == 0) = false := beq_eq_false_iff_ne.2 (by omega)
        have k2 : (c == 0) = false := beq_eq_false_iff_ne.2 (by omega)
        clear e1 e4 e5 hch hc hb0
        by_cases hu : ∃ u ∈ kw, pre s (j + 1) u
        · obtain ⟨g1, g2, g3⟩ := E4.out hu
          have d3 := HA.out.check (base + c) g1
          rw [g2] at d3
          have HO2 := Aside0.mk g3
          clear g2 g3 E4 E5
          go_wp2_with fail
          have r1 : decide ((0:Int) ≤ (t:Int)) = true := decide_eq_true (by omega)
          have r2 : decide ((t:Int) < (m:Int)) = true := decide_eq_true (by omega)
          have r3 : (t:Int) < (m:Int) := by omega
          have r4 : (0:Int) ≤ (t:Int) := by omega
          have r5 : (j:Int) < (s.size:Int) := by omega
          have r6 : (0:Int) ≤ (j:Int) := by omega
          refine still_tail 13 (by kernel_rfl) (by kernel_rfl) ?_
          intro w2 e2
          have HD2 : Aside0 (Drw w w2) := ⟨by rw [e2]; exact HD.out.drewN 1⟩
          have HA2 : Aside0 (At w2 v b m B C) := ⟨by rw [e2]; exact HA.out.drew⟩
          have d3 := d3
          rw [show wr.cell? = w2.cell? by rw [e2]; rfl] at d1 d2 d3
          clear e2
          simp only [List.take_succ_cons, List.take_zero, List.drop_succ_cons, List.drop_zero]
          repeat still_step
          refine wpStill_nil ?_
          go_wp2_with fail
          go_roundw
          case rel => exact ⟨j + 1, base + c, by go_num, by go_num, ⟨by omega⟩, HO2, HD2⟩
          case measure => simp [intOf]; omega
        · have hno := E5.out hu
          have HU : Aside0 (∀ u ∈ kw, ¬ pre s s.size u) := ⟨fun u hu1 hp => hu ⟨u, hu1, hp.shorter (by omega)⟩⟩
          clear E4 E5 hu
          by_cases hbm : base + c < m
          · have d3 := HA.out.check (base + c) hbm
            have hne : C (base + c) ≠ (t:Int) := fun q => hno ⟨hbm, q⟩
            obtain ⟨cv, hcv⟩ : ∃ cv, cv = C (base + c) := ⟨_, rfl⟩
            have hcb := HT.out.cb _ hbm
            rw [← hcv] at d3 hne hcb
            have hw : wrap64 cv = cv := by unfold wrap64; omega
            have HCB := Aside0.mk hcb
            have n1 : (cv != (t:Int)) = true := bne_iff_ne.2 hne
            have n2 : (cv == (t:Int)) = false := beq_eq_false_iff_ne.2 hne
            clear hno hcv hcb
            go_wp2_with fail
            have r1 : decide ((0:Int) ≤ (t:Int)) = true := decide_eq_true (by omega)
            have r2 : decide ((t:Int) < (m:Int)) = true := decide_eq_true (by omega)
            have r3 : (t:Int) < (m:Int) := by omega
            have r4 : (0:Int) ≤ (t:Int) := by omega
            have r5 : (j:Int) < (s.size:Int) := by omega
            have r6 : (0:Int) ≤ (j:Int) := by omega
            refine still_tail 13 (by kernel_rfl) (by kernel_rfl) ?_
            intro w2 e2
            have HD2 : Aside0 (Drw w w2) := ⟨by rw [e2]; exact HD.out.drewN 1⟩
            have HA2 : Aside0 (At w2 v b m B C) := ⟨by rw [e2]; exact HA.out.drew⟩
            have d3 := d3
            rw [show wr.cell? = w2.cell? by rw [e2]; rfl] at d1 d2 d3
            clear e2
            simp only [List.take_succ_cons, List.take_zero, List.drop_succ_cons, List.drop_zero]
            repeat still_step
            refine wpStill_nil ?_
            go_wp2_with fail
            (try simp only [Exit.inBlock, Exit.then]); refine bodyPost_ret (results_tmp4 rfl _ _ _) rfl ?_
            exact ⟨_, _, _, _, rfl, ⟨fun h => (by cases h), fun _ => .inr HU.out⟩, HD2.out⟩
          · clear hno
            have d3 := d2
            go_wp2_with fail
            have r1 : decide ((0:Int) ≤ (t:Int)) = true := decide_eq_true (by omega)
            have r2 : decide ((t:Int) < (m:Int)) = true := decide_eq_true (by omega)
            have r3 : (t:Int) < (m:Int) := by omega
            have r4 : (0:Int) ≤ (t:Int) := by omega
            have r5 : (j:Int) < (s.size:Int) := by omega
            have r6 : (0:Int) ≤ (j:Int) := by omega
            refine still_tail 13 (by kernel_rfl) (by kernel_rfl) ?_
            intro w2 e2
            have HD2 : Aside0 (Drw w w2) := ⟨by rw [e2]; exact HD.out.drewN 1⟩
            have HA2 : Aside0 (At w2 v b m B C) := ⟨by rw [e2]; exact HA.out.drew⟩
            have d3 := d3
            rw [show wr.cell? = w2.cell? by rw [e2]; rfl] at d1 d2 d3
            clear e2
            simp only [List.take_succ_cons, List.take_zero, List.drop_succ_cons, List.drop_zero]
            repeat still_step
            refine wpStill_nil ?_
            go_wp2_with fail
            (try simp only [Exit.inBlock, Exit.then]); refine bodyPost_ret (results_tmp4 rfl _ _ _) rfl ?_
            exact ⟨_, _, _, _, rfl, ⟨fun h => (by cases h), fun _ => .inr HU.out⟩, HD2.out⟩
      · have k1 : decide (j < s.size) = false := decide_eq_false hlt
        have k2 : decide ((j:Int) < (s.size:Int)) = false := decide_eq_false (by omega)
        go_wp2_with fail
        (try simp only [Exit.inBlock, Exit.then]); refine bodyPost_ret (results_tmp4 rfl _ _ _) rfl ?_
        refine ⟨_, _, _, _, rfl, ⟨fun _ => ⟨hz0, t, rfl, ?_⟩, fun h => (by cases h)⟩, HD.out⟩
        have hj : j = s.size := by have := HJ.out; omega
        rw [← hj]; exact HO.out
end Go.Proofs.Ytddcjmdcpkmnjab.Da
namespace Go.Proofs.Ytddcjmdcpkmnjab.Da
open Go.RowKit Go.Proofs.YtddcjmdcpkmnjabW.PrintWords Go.Proofs.Ytddcjmdcpkmnjab.Gn
def find (kw : List ByteArray) (ids : List Int) (s : ByteArray) : Int × Bool := if s.size = 0 then (0, false) else if s ∈ kw then (idOf kw ids s, true) else (0, kw.any fun u => decide (pre s s.size u))
def FindPost (kw : List ByteArray) (ids : List Int) (s : ByteArray) (w : World) (e : Ending) (w' : World) : Prop :=
  ∃ x ok, e = .returned (.tuple #[.int .i64 x, .bool ok]) ∧ (x, ok) = find kw ids s ∧ Chg [] w w'
theorem On.some {kw : List ByteArray} {ids : List Int} {m : Nat} {B C : Nat → Int} {s : ByteArray} {t p : Nat} (h : On kw ids m B C s t p) : ∃ u ∈ kw, pre s t u := by
  obtain ⟨n, F, k, kw', ids', h1, h2, h3, h4, h5, h6, h7, h8, h9, h10, h11, h12⟩ := h.ex
  cases k with
  | zero => exact h5.elim
  | succ k =>
    obtain ⟨x, hx⟩ := List.exists_mem_of_ne_nil _ h6.1
    obtain ⟨hx1, hx2⟩ := mem_brs.1 hx
    exact ⟨wd kw' x, h1.mem_iff.1 (by rw [wd_get kw' hx1]; exact List.getElem_mem _), hx2⟩
theorem pre_self (s : ByteArray) : pre s s.size s := ⟨Nat.le_refl _, fun _ _ => rfl⟩
theorem extract_self (s : ByteArray) : s.extract 0 s.size = s := ((pre_whole s s.size (Nat.le_refl _) s).1 ⟨pre_self s, rfl⟩).symm
theorem Built.at {w : World} {b m : Nat} {B C : Nat → Int} (h : w.heap[b]? = some (.cells (row m B C) 70 (0, 0))) :
    At (w.alloc (.cells #[.slice (some ⟨b, 0, none⟩) m m] 51)) w.heap.size b m B C := by
  have hb : b < w.heap.size := (Array.getElem?_eq_some_iff.1 h).1
  exact ⟨by omega, heap_alloc_new _ _, (Below.heap_alloc w _ b hb).trans h⟩
set_option maxHeartbeats 2000000 in
set_option maxRecDepth 100000 in
theorem find_calls (w : World) (b m : Nat) (B C : Nat → Int) (kw : List ByteArray) (ids : List Int) (s : ByteArray) (h : w.heap[b]? = some (.cells (row m B C) 70 (0, 0))) (hm : m ≤ 60000) (hT : TrieOk kw ids m B C) (hs : s.size ≤ 1000) (hnz : ∀ j, j < s.size → (s.get! j).toNat ≠ 0) :
    Calls Try.prog 27 #[.slice (some ⟨b, 0, none⟩) m m, .string s] w (FindPost kw ids s w) := by
  have HA := Aside0.mk (Built.at h)
  have HT := Aside0.mk hT
  have HC := Aside0.mk (show Chg [] w (w.alloc (.cells #[.slice (some ⟨b, 0, none⟩) m m] 51)) from (Chg.refl [] w).alloc _)
  have HS := Aside0.mk (search_calls _ _ b m B C kw ids s HA.out hm hT hs hnz)
  clear h hT hnz
  go_enter Try.func27, Try.ntmps27
  go_wp2_with fail
  refine HS.out.mono ?_
  rintro e w2 ⟨vp, vq, vi, ok, rfl, hT1, hD⟩
  have HA2 := Aside0.mk (hD.at HA.out)
  have HC2 := Aside0.mk (HC.out.above (hD.chg []) (by simp))
  clear HS HA HC hD
  cases ok with
  | false =>
    have HF : Aside0 ((0, false) = find kw ids s) := ⟨by
      unfold find
      by_cases hz : s.size = 0
      · rw [if_pos hz]
      · rw [if_neg hz]
        have hno := (hT1.2 rfl).resolve_left hz
        rw [if_neg (fun g => hno s g (pre_self s))]
        have : (kw.any fun u => decide (pre s s.size u)) = false := by
          rw [List.any_eq_false]
          intro u hu
          simpa using hno u hu
        rw [this]⟩
    clear hT1
    go_wp2_with fail
    go_ret2
    exact ⟨_, _, rfl, HF.out, HC2.out⟩
  | true =>
    obtain ⟨hz, t, rfl, hO⟩ := hT1.1 rfl
    have htm := hO.lt
    obtain ⟨base, e1, e2, e3, e4, e5⟩ := hO.term (Nat.le_refl _)
    rw [extract_self] at e4 e5
    have d1 := HA2.out.cell
    have d2 := HA2.out.base t htm
    rw [e1] at d2
    have hsome := hO.some
    clear hT1 e1 hO
    by_cases hu : s ∈ kw
    · obtain ⟨g1, g2, g3, g4, g5⟩ := e4 hu
      have d3 := HA2.out.check base g1
      have d4 := HA2.out.base base g1
      rw [g2] at d3
      obtain ⟨y, hy⟩ : ∃ y, y = idOf kw ids s := ⟨_, rfl⟩
      rw [g3, ← hy] at d4
      rw [← hy] at g4 g5
      have HF : Aside0 ((y, true) = find kw ids s) := ⟨by unfold find; rw [if_neg (by omega), if_pos hu, hy]⟩
      clear e4 e5 g2 g3 hy hu
      have k1 : decide (0 < -y) = false := decide_eq_false (by omega)
      go_wp2_with fail
      go_ret2
      exact ⟨_, _, rfl, HF.out, HC2.out⟩
    · have hno := e5 hu
      have HF : Aside0 ((0, true) = find kw ids s) := ⟨by
        unfold find
        rw [if_neg (by omega), if_neg hu]
        have : (kw.any fun u => decide (pre s s.size u)) = true := by
          obtain ⟨u, hu1, hu2⟩ := hsome
          rw [List.any_eq_true]
          exact ⟨u, hu1, by simpa using hu2⟩
        rw [this]⟩
      clear e4 e5 hu
      by_cases hbm : base < m
      · have d3 := HA2.out.check base hbm
        have hne : C base ≠ (t:Int) := fun q => hno ⟨hbm, q⟩
        have hcb := HT.out.cb _ hbm
        obtain ⟨cv, hcv⟩ : ∃ cv, cv = C base := ⟨_, rfl⟩
        rw [← hcv] at d3 hne hcb
        have n1 : (cv != (t:Int)) = true := bne_iff_ne.2 hne
        have n2 : (cv == (t:Int)) = false := beq_eq_false_iff_ne.2 hne
        have hw : wrap64 cv = cv := by unfold wrap64; omega
        clear hno hcv hcb
        go_wp2_with fail
        go_ret2
        exact ⟨_, _, rfl, HF.out, HC2.out⟩
      · clear hno
        go_wp2_with fail
        go_ret2
        exact ⟨_, _, rfl, HF.out, HC2.out⟩
end Go.Proofs.Ytddcjmdcpkmnjab.Da
