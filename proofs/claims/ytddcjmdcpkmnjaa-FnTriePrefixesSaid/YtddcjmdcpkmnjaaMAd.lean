/- The double array: rows of signs and places, and the map of places by signs, in memory. The double array: what the first loop of add holds, step by step. The double array: add. -/
import Derived.Test.YtddcjmdcpkmnjaaMPl
import Derived.Test.YtddcjmdcpkmnjaaMWa
import Derived.Test.YtddcjmdcpkmnjaaMGn
import Derived.Laws.IdiomStrings
import Derived.Deep.Cut
set_option linter.unusedVariables false
namespace Go.Proofs.Ytddcjmdcpkmnjaa.Gn
open Go.RowKit
/-- The cells of block g, from its beginning on, hold xs. -/
def RowAt {α : Type} (w : World) (g : Nat) (enc : α → Value) (xs : List α) : Prop := ∀ (j : Nat) (h : j < xs.length), w.cell? ⟨g, j, none⟩ = some (enc xs[j])
theorem RowAt.chg {α : Type} {S : List Nat} {w w' : World} {g : Nat} {enc : α → Value} {xs : List α} (h : RowAt w g enc xs) (hc : Chg S w w') (hs : g ∉ S) : RowAt w' g enc xs := fun j hj => by
  have h1 := h j hj
  have hlt : g < w.heap.size := World.block_lt_of_cell? w _ h1
  exact (World.cell?_of_block (w := w) (hc.block g hlt hs)).trans h1
theorem RowAt.of_row {α : Type} {w : World} {e g n cap : Nat} {enc : α → Value} {xs : List α} (h : ORow w e (.slice (some ⟨g, 0, none⟩) n cap) (xs.map enc)) : RowAt w g enc xs := fun j hj => by
  have := h.cell j (by simpa using hj)
  simpa using this
/-- '[]byte(s)'. -/
theorem wpList_toBytes {P : Program} {w : World} {ops : Array Oper} {rest : List Oper} {o : Oper} {a : Act} {Q : Exit → Act → World → Prop} (hg : o.guard = none) (x : Operand) (src dst e : TypeId) (ho : o.op = .convert src dst x) (s : ByteArray) (hx : a.eval x = .string s)
    (hs : P.underlying src = some .string) (hd : P.underlying dst = some (.slice e)) (he : P.underlying e = some (.int .u8))
    (hK : ∀ w' cap, Chg [] w w' → w'.heap.size = w.heap.size + 1 → (∀ j, j < s.size → w'.cell? ⟨w.heap.size, j, none⟩ = some (.int .u8 ((s.get! j).toNat : Nat))) → s.size ≤ cap → wpList P ops Q rest (a.put o.dst (.slice (some ⟨w.heap.size, 0, none⟩) s.size cap)) w') :
    wpList P ops Q (o :: rest) a w := by
  refine wpList_plain hg fun K hK' => ?_
  have hr := run_bytes_of_string (P := P) w src dst e s hs hd he
  unfold Oper.wp
  simp [execOp, ho, hx, hr, Result.andThen]
  refine hK' _ _ (hK _ _ (((Chg.refl [] w).drew).alloc _) (size_alloc _ _) (fun j hj => ?_) ?_)
  · have h2 : j < s.data.size := hj
    have hb : (bytesRow s (grownCap w s.size 0 e))[j]? = some (.int .u8 ((s.get! j).toNat : Nat)) := by
      unfold bytesRow
      rw [Array.getElem?_append_left (by simpa using h2), Array.getElem?_map, Array.getElem?_eq_getElem h2]
      show some (Value.int .u8 ((s.data[j]).toNat : Int)) = some (Value.int .u8 ((s.data[j]!).toNat : Int))
      rw [getElem!_pos s.data j h2]
    have hh := heap_alloc_new w.drew (.cells (bytesRow s (grownCap w s.size 0 e)) e ((bytesRow s (grownCap w s.size 0 e)).size, (bytesRow s (grownCap w s.size 0 e)).size + 1))
    have hsz : w.drew.heap.size = w.heap.size := rfl
    rw [hsz] at hh
    unfold World.cell?
    rw [show (w.drew.alloc _).heap[(⟨w.heap.size, j, none⟩ : Addr).block]? = _ from hh]
    exact hb
  · exact grownCap_ge _ _ _ _
end Go.Proofs.Ytddcjmdcpkmnjaa.Gn
namespace Go.Proofs.Ytddcjmdcpkmnjaa.Da
open Go.RowKit Go.Proofs.Ytddcjmdcpkmnjaa.Gn
def u8 (n : Nat) : Value := .int .u8 (n : Int)
def i64 (n : Nat) : Value := .int .i64 (n : Int)
/-- The places by their signs; of sign 0 none. -/
def subz (kw : List ByteArray) (i : Nat) (br : List Nat) (c : Nat) : List Nat := if c = 0 then [] else sub kw i br c
/-- Map m has, by each sign, the places that have it, in rows of their own, from block base on, none of them that of vc. -/
def SubM (w : World) (m base : Nat) (vc : Value) (kw : List ByteArray) (i : Nat) (br : List Nat) : Prop :=
  ∃ S : List (Int × Value), MapAt w m (fun n : Int => Value.int .u8 n) S ∧
    (∀ c : Nat, (getL S (c : Int) = none ∧ subz kw i br c = []) ∨ ∃ v g, getL S (c : Int) = some v ∧ subz kw i br c ≠ [] ∧ v.ownBlock = some g ∧ base ≤ g ∧ vc.ownBlock ≠ some g ∧ ORow w 3 v ((subz kw i br c).map i64)) ∧
    (∀ (c c' : Nat) v v' g, getL S (c : Int) = some v → getL S (c' : Int) = some v' → v.ownBlock = some g → v'.ownBlock = some g → c = c')
theorem SubM.new (w : World) (base : Nat) (vc : Value) (kw : List ByteArray) (i : Nat) : SubM (w.alloc (.map #[] 0)) w.heap.size base vc kw i [] :=
  ⟨[], MapAt.new w _, fun c => .inl ⟨rfl, by unfold subz sub; split <;> rfl⟩, fun c c' v v' g h => by cases h⟩
theorem SubM.chg {T : List Nat} {w w' : World} {m base : Nat} {vc : Value} {kw : List ByteArray} {i : Nat} {br : List Nat} (h : SubM w m base vc kw i br) (hc : Chg T w w') (hm : m ∉ T) (hT : ∀ g ∈ T, g < base ∨ vc.ownBlock = some g) : SubM w' m base vc kw i br := by
  obtain ⟨S, h1, h2, h3⟩ := h
  refine ⟨S, h1.chg hc hm, fun c => ?_, h3⟩
  rcases h2 c with g | ⟨v, g, a1, a2, a3, a4, a5, a6⟩
  · exact .inl g
  · exact .inr ⟨v, g, a1, a2, a3, a4, a5, a6.chg hc (fun g2 hg2 hin => by
      have e : g2 = g := by rw [a3] at hg2; injection hg2 with hg2; exact hg2.symm
      subst e
      rcases hT g2 hin with k | k
      · omega
      · exact a5 k)⟩
theorem SubM.revc {w : World} {m base : Nat} {vc vc' : Value} {kw : List ByteArray} {i : Nat} {br : List Nat} (h : SubM w m base vc kw i br) (hv : vc'.ownBlock = vc.ownBlock ∨ ∃ g, vc'.ownBlock = some g ∧ w.heap.size ≤ g) : SubM w m base vc' kw i br := by
  obtain ⟨S, h1, h2, h3⟩ := h
  refine ⟨S, h1, fun c => ?_, h3⟩
  rcases h2 c with g | ⟨v, g, a1, a2, a3, a4, a5, a6⟩
  · exact .inl g
  · refine .inr ⟨v, g, a1, a2, a3, a4, fun e => ?_, a6⟩
    rcases hv with k | ⟨g2, k1, k2⟩
    · rw [k] at e; exact a5 e
    · rw [k1] at e
      injection e with e
      have := (a6.block a3).1
      omega
theorem SubM.lt {w : World} {m base : Nat} {vc : Value} {kw : List ByteArray} {i : Nat} {br : List Nat} (h : SubM w m base vc kw i br) : m < w.heap.size := by
  obtain ⟨S, h1, _⟩ := h
  exact h1.lt
theorem subz_snoc (kw : List ByteArray) (i : Nat) (br : List Nat) (x c : Nat) : subz kw i (br ++ [x]) c = subz kw i br c ++ (if chAt (wd kw x) i = c ∧ c ≠ 0 then [x] else []) := by
  unfold subz sub
  by_cases e : c = 0
  · rw [if_pos e, if_pos e, if_neg (fun g => g.2 e)]; rfl
  · rw [if_neg e, if_neg e, List.filter_append]
    by_cases e2 : chAt (wd kw x) i = c
    · rw [if_pos ⟨e2, e⟩]; simp [e2]
    · rw [if_neg (fun g => e2 g.1)]; simp [e2]
theorem SubM.skip {w : World} {m base : Nat} {vc : Value} {kw : List ByteArray} {i : Nat} {br : List Nat} (h : SubM w m base vc kw i br) (x : Nat) (hx : chAt (wd kw x) i = 0) : SubM w m base vc kw i (br ++ [x]) := by
  obtain ⟨S, h1, h2, h3⟩ := h
  refine ⟨S, h1, fun c => ?_, h3⟩
  have : subz kw i (br ++ [x]) c = subz kw i br c := by
    rw [subz_snoc, if_neg (fun g => g.2 (by rw [← g.1]; exact hx)), List.append_nil]
  rw [this]
  exact h2 c
/-- What the look-up of a sign tells, and how it is put back behind an append. -/
theorem SubM.at {w : World} {m base : Nat} {vc : Value} {kw : List ByteArray} {i : Nat} {br : List Nat} (h : SubM w m base vc kw i br) (x : Nat) (hx : chAt (wd kw x) i ≠ 0) (hb : base ≤ w.heap.size) (hvc : ∀ g, vc.ownBlock = some g → g < w.heap.size) :
    ∃ (S : List (Int × Value)) (v : Value), MapAt w m (fun n : Int => Value.int .u8 n) S ∧ (getL S (chAt (wd kw x) i : Int)).getD (.slice none 0 0) = v ∧ ORow w 3 v ((sub kw i br (chAt (wd kw x) i)).map i64) ∧ (∀ g, v.ownBlock = some g → base ≤ g ∧ vc.ownBlock ≠ some g) ∧
      ∀ w1 w2 v', Chg v.ownBlock.toList w w1 → ORow w1 3 v' ((sub kw i br (chAt (wd kw x) i)).map i64 ++ [i64 x]) → (v'.ownBlock = v.ownBlock ∨ ∃ g, v'.ownBlock = some g ∧ w.heap.size ≤ g) → MapAt w2 m (fun n : Int => Value.int .u8 n) (putL S (chAt (wd kw x) i : Int) v') → Chg [m] w1 w2 → SubM w2 m base vc kw i (br ++ [x]) := by
  obtain ⟨S, h1, h2, h3⟩ := h
  generalize hc0 : chAt (wd kw x) i = c0 at *
  have hs0 : subz kw i br c0 = sub kw i br c0 := if_neg hx
  have hmobj : ∃ es c, w.heap[m]? = some (.map es c) := by obtain ⟨es, c, k, _⟩ := h1; exact ⟨es, c, k⟩
  have hnm : ∀ {v : Value} {xs : List Value} {g : Nat}, ORow w 3 v xs → v.ownBlock = some g → g ≠ m := fun hr hg e => by
    obtain ⟨_, cur, k⟩ := hr.block hg
    obtain ⟨es, c, k2⟩ := hmobj
    rw [e, k2] at k; cases k
  have key : ∀ v, (getL S (c0 : Int)).getD (.slice none 0 0) = v → (∀ g, v.ownBlock = some g → getL S (c0 : Int) = some v) → ORow w 3 v ((sub kw i br c0).map i64) → (∀ g, v.ownBlock = some g → base ≤ g ∧ vc.ownBlock ≠ some g ∧ g ≠ m) →
      ∀ w1 w2 v', Chg v.ownBlock.toList w w1 → ORow w1 3 v' ((sub kw i br c0).map i64 ++ [i64 x]) → (v'.ownBlock = v.ownBlock ∨ ∃ g, v'.ownBlock = some g ∧ w.heap.size ≤ g) → MapAt w2 m (fun n : Int => Value.int .u8 n) (putL S (c0 : Int) v') → Chg [m] w1 w2 → SubM w2 m base vc kw i (br ++ [x]) := by
    intro v hv hvs hrow hown w1 w2 v' hc1 hr1 hl1 hm2 hc2
    have hv'own : ∃ g, v'.ownBlock = some g := by
      obtain ⟨A, cap, e1, e2, e3, e4⟩ := hr1.slice
      obtain ⟨g, e5⟩ := e3 (by simp)
      exact ⟨g, by rw [e1, e5]; rfl⟩
    obtain ⟨gv', hgv'⟩ := hv'own
    have hgm : gv' ≠ m := by
      rcases hl1 with k | ⟨g, k1, k2⟩
      · rw [hgv'] at k; exact (hown gv' k.symm).2.2
      · have : gv' = g := by rw [hgv'] at k1; injection k1
        have := h1.lt
        omega
    refine ⟨_, hm2, fun c => ?_, ?_⟩
    · rw [getL_putL, subz_snoc, hc0]
      by_cases e : (c : Int) = (c0 : Int)
      · have e' : c = c0 := by omega
        subst e'
        rw [if_pos rfl, if_pos ⟨rfl, hx⟩, hs0]
        refine .inr ⟨v', gv', rfl, by simp, hgv', ?_, ?_, ?_⟩
        · rcases hl1 with k | ⟨g, k1, k2⟩
          · rw [hgv'] at k; exact (hown gv' k.symm).1
          · have : gv' = g := by rw [hgv'] at k1; injection k1
            omega
        · rcases hl1 with k | ⟨g, k1, k2⟩
          · rw [hgv'] at k; exact (hown gv' k.symm).2.1
          · intro e
            have := hvc gv' e
            have : gv' = g := by rw [hgv'] at k1; injection k1
            omega
        · rw [List.map_append]
          exact hr1.chg hc2 (fun g hg hin => hgm (by rw [hgv'] at hg; injection hg with hg; rw [hg]; simpa using hin))
      · rw [if_neg e, if_neg (fun g => e (by rw [g.1])), List.append_nil]
        rcases h2 c with g | ⟨u, g, a1, a2, a3, a4, a5, a6⟩
        · exact .inl g
        · refine .inr ⟨u, g, a1, a2, a3, a4, a5, ?_⟩
          refine (a6.chg hc1 (fun g2 hg2 hin => ?_)).chg hc2 (fun g2 hg2 hin => ?_)
          · have e2 : g2 = g := by rw [a3] at hg2; injection hg2 with hg2; exact hg2.symm
            subst e2
            have hvo : v.ownBlock = some g2 := by
              cases hb : v.ownBlock with
              | none => rw [hb] at hin; cases hin
              | some q => rw [hb] at hin; simp at hin; rw [hin]
            have := h3 c c0 u v g2 a1 (hvs g2 hvo) a3 hvo
            omega
          · have e2 : g2 = g := by rw [a3] at hg2; injection hg2 with hg2; exact hg2.symm
            exact hnm a6 a3 (by rw [← e2]; simpa using hin)
    · have hdis : ∀ c : Nat, (c : Int) ≠ (c0 : Int) → ∀ u, getL S (c : Int) = some u → u.ownBlock ≠ some gv' := fun c hcc u hu hug => by
        rcases hl1 with k | ⟨g, k1, k2⟩
        · rw [hgv'] at k
          have := h3 c c0 u v gv' hu (hvs gv' k.symm) hug k.symm
          omega
        · rcases h2 c with q | ⟨u2, g2, a1, a2, a3, a4, a5, a6⟩
          · rw [q.1] at hu; cases hu
          · have e1 : u2 = u := by rw [a1] at hu; injection hu
            subst e1
            have e2 : g2 = gv' := by rw [a3] at hug; injection hug
            have e3 : gv' = g := by rw [hgv'] at k1; injection k1
            have := (a6.block a3).1
            omega
      intro c c' u u' g hu hu' hg hg'
      rw [getL_putL] at hu hu'
      by_cases e : (c : Int) = (c0 : Int) <;> by_cases e' : (c' : Int) = (c0 : Int)
      · omega
      · rw [if_pos e] at hu
        rw [if_neg e'] at hu'
        injection hu with hu
        subst hu
        have : g = gv' := by rw [hgv'] at hg; injection hg with hg; exact hg.symm
        subst this
        exact absurd hg' (hdis c' e' u' hu')
      · rw [if_neg e] at hu
        rw [if_pos e'] at hu'
        injection hu' with hu'
        subst hu'
        have : g = gv' := by rw [hgv'] at hg'; injection hg' with hg'; exact hg'.symm
        subst this
        exact absurd hg (hdis c e u hu)
      · rw [if_neg e] at hu
        rw [if_neg e'] at hu'
        exact h3 c c' u u' g hu hu' hg hg'
  rcases h2 c0 with ⟨k1, k2⟩ | ⟨v, g, a1, a2, a3, a4, a5, a6⟩
  · rw [hs0] at k2
    refine ⟨S, .slice none 0 0, h1, by rw [k1]; rfl, by rw [k2]; exact ORow.nil _ _, (fun g hg => by cases hg), ?_⟩
    exact key (.slice none 0 0) (by rw [k1]; rfl) (fun g hg => by cases hg) (by rw [k2]; exact ORow.nil _ _) (fun g hg => by cases hg)
  · rw [hs0] at a6
    have ho : ∀ g2, v.ownBlock = some g2 → g2 = g := fun g2 hg2 => by rw [a3] at hg2; injection hg2 with hg2; exact hg2.symm
    refine ⟨S, v, h1, by rw [a1]; rfl, a6, fun g2 hg2 => by rw [ho g2 hg2]; exact ⟨a4, a5⟩, ?_⟩
    exact key v (by rw [a1]; rfl) (fun _ _ => a1) a6 (fun g2 hg2 => by rw [ho g2 hg2]; exact ⟨a4, a5, hnm a6 a3⟩)
/-- What the look-up of any sign tells. -/
theorem SubM.get {w : World} {m base : Nat} {vc : Value} {kw : List ByteArray} {i : Nat} {br : List Nat} (h : SubM w m base vc kw i br) (c : Nat) :
    ∃ (S : List (Int × Value)) (v : Value), MapAt w m (fun n : Int => Value.int .u8 n) S ∧ (getL S (c : Int)).getD (.slice none 0 0) = v ∧ ORow w 3 v ((subz kw i br c).map i64) ∧ ∀ g, v.ownBlock = some g → base ≤ g := by
  obtain ⟨S, h1, h2, h3⟩ := h
  rcases h2 c with ⟨k1, k2⟩ | ⟨v, g, a1, a2, a3, a4, a5, a6⟩
  · exact ⟨S, .slice none 0 0, h1, by rw [k1]; rfl, by rw [k2]; exact ORow.nil _ _, fun g hg => by cases hg⟩
  · exact ⟨S, v, h1, by rw [a1]; rfl, a6, fun g2 hg2 => by rw [a3] at hg2; injection hg2 with hg2; omega⟩
end Go.Proofs.Ytddcjmdcpkmnjaa.Da
namespace Go.Proofs.Ytddcjmdcpkmnjaa.Da
open Go.RowKit Go.Proofs.Ytddcjmdcpkmnjaa.Gn
/-- The signs' row, the map of places; nothing old has turned. -/
def Mid (w wr : World) (kw : List ByteArray) (i : Nat) (br cs : List Nat) (vc : Value) : Prop :=
  ORow wr 5 vc (cs.map u8) ∧ (∀ g, vc.ownBlock = some g → w.heap.size ≤ g) ∧ SubM wr w.heap.size w.heap.size vc kw i br ∧ Chg [] w wr
theorem Mid.start (w : World) (kw : List ByteArray) (i : Nat) : Mid w (w.alloc (.map #[] 0)) kw i [] [] (.slice none 0 0) := ⟨ORow.nil _ _, (fun g h => by cases h), SubM.new w _ _ _ _, (Chg.refl [] w).alloc _⟩
theorem Mid.chg {w wr w' : World} {kw : List ByteArray} {i : Nat} {br cs : List Nat} {vc : Value} (h : Mid w wr kw i br cs vc) (hc : Chg [] wr w') : Mid w w' kw i br cs vc :=
  ⟨h.1.chg hc (fun _ _ => by simp), h.2.1, h.2.2.1.chg hc (by simp) (by simp), h.2.2.2.trans hc⟩
theorem orow_ne_map {w : World} {e : Nat} {v : Value} {xs : List Value} (h : ORow w e v xs) {m g : Nat} {S : List (Int × Value)} {enc : Int → Value} (hm : MapAt w m enc S) (hg : v.ownBlock = some g) : g ≠ m := fun e => by
  obtain ⟨_, cur, k⟩ := h.block hg
  obtain ⟨es, c, k2, _⟩ := hm
  rw [e, k2] at k; cases k
theorem toList_mem {o : Option Nat} {g : Nat} (h : g ∈ o.toList) : o = some g := by
  cases o with
  | none => cases h
  | some q => simp at h; rw [h]
theorem Mid.app {w wr w2 : World} {kw : List ByteArray} {i : Nat} {br cs : List Nat} {vc v2 : Value} {ch : Nat} {o : Obj} (h : Mid w wr kw i br cs vc) (hr : ORow w2 5 v2 (cs.map u8 ++ [u8 ch])) (hc : Chg vc.ownBlock.toList (wr.alloc o) w2) (ho : v2.ownBlock = vc.ownBlock ∨ v2.ownBlock = some (wr.alloc o).heap.size) :
    Mid w w2 kw i br (cs ++ [ch]) v2 := by
  obtain ⟨h1, h2, h3, h4⟩ := h
  have hsz := h4.size
  have hc2 : Chg vc.ownBlock.toList wr w2 := (((Chg.refl [] wr).alloc o).mono (by simp)).trans hc
  have hm : w.heap.size ∉ vc.ownBlock.toList := fun g => by
    obtain ⟨S, k, _⟩ := h3
    exact orow_ne_map h1 k (toList_mem g) rfl
  refine ⟨by rw [List.map_append]; exact hr, fun g hg => ?_, ?_, ?_⟩
  · rcases ho with k | k
    · rw [k] at hg; exact h2 g hg
    · rw [k, size_alloc] at hg; injection hg with hg; omega
  · have h5 := h3.chg hc2 hm (fun g hg => .inr (toList_mem hg))
    obtain ⟨S, a1, a2, a3⟩ := h5
    refine ⟨S, a1, fun c => ?_, a3⟩
    rcases a2 c with q | ⟨v, g, b1, b2, b3, b4, b5, b6⟩
    · exact .inl q
    · refine .inr ⟨v, g, b1, b2, b3, b4, fun e => ?_, b6⟩
      rcases ho with k | k
      · rw [k] at e; exact b5 e
      · rw [k, size_alloc] at e
        injection e with e
        obtain ⟨S', c1, c2, c3⟩ := h3
        rcases c2 c with q | ⟨v', g', d1, d2, d3, d4, d5, d6⟩
        · have := (b6.block b3).1
          -- the row stood already
          have hS : getL S (c : Int) = some v := b1
          rw [q.2] at b2; exact b2 rfl
        · have hlt := (d6.block d3).1
          have hold := (hc2.block wr.heap.size)
          by_cases ev : v = v'
          · subst ev
            have : g = g' := by rw [b3] at d3; injection d3
            omega
          · have hS2 : ∃ es c0, wr.heap[w.heap.size]? = some (.map es c0) ∧ es.toList.map kv = S'.map (fun p => ((Value.int .u8 p.1), p.2)) := by
              obtain ⟨es, c0, x1, x2⟩ := c1; exact ⟨es, c0, x1, x2⟩
            obtain ⟨es, c0, x1, x2⟩ := hS2
            obtain ⟨es2, c02, y1, y2⟩ := a1
            have hb := hc2.block w.heap.size (Array.getElem?_eq_some_iff.1 x1).1 hm
            rw [x1, y1] at hb
            injection hb with hb
            injection hb with hb1 hb2
            subst hb1
            have hSS : S.map (fun p => ((Value.int .u8 p.1), p.2)) = S'.map (fun p => ((Value.int .u8 p.1), p.2)) := by rw [← y2, ← x2]
            have : S = S' := by
              have inj : ∀ (A B : List (Int × Value)), A.map (fun p => ((Value.int .u8 p.1), p.2)) = B.map (fun p => ((Value.int .u8 p.1), p.2)) → A = B := by
                intro A
                induction A with
                | nil => intro B hB; cases B with
                  | nil => rfl
                  | cons _ _ => cases hB
                | cons a A ih => intro B hB; cases B with
                  | nil => cases hB
                  | cons b B =>
                    simp only [List.map_cons, List.cons.injEq, Prod.mk.injEq, Value.int.injEq, true_and] at hB
                    obtain ⟨⟨z1, z2⟩, z3⟩ := hB
                    rw [ih B z3]
                    congr 1
                    exact Prod.ext z1 z2
              exact inj S S' hSS
            rw [this, d1] at b1
            injection b1 with b1
            exact ev b1.symm
  · exact h4.above hc2 (fun g hg => .inr (h2 g (toList_mem hg)))
theorem Mid.place {w wr : World} {kw : List ByteArray} {i : Nat} {br cs : List Nat} {vc : Value} (h : Mid w wr kw i br cs vc) (x : Nat) (hx : chAt (wd kw x) i ≠ 0) :
    ∃ (S : List (Int × Value)) (v : Value), MapAt wr w.heap.size (fun n : Int => Value.int .u8 n) S ∧ (getL S (chAt (wd kw x) i : Int)).getD (.slice none 0 0) = v ∧ ORow wr 3 v ((sub kw i br (chAt (wd kw x) i)).map i64) ∧
      ∀ o w2 v', ORow w2 3 v' ((sub kw i br (chAt (wd kw x) i)).map i64 ++ [i64 x]) → Chg v.ownBlock.toList (wr.alloc o) w2 → (v'.ownBlock = v.ownBlock ∨ v'.ownBlock = some (wr.alloc o).heap.size) →
        MapAt w2 w.heap.size (fun n : Int => Value.int .u8 n) S ∧ ∀ w3, MapAt w3 w.heap.size (fun n : Int => Value.int .u8 n) (putL S (chAt (wd kw x) i : Int) v') → Chg [w.heap.size] w2 w3 → Mid w w3 kw i (br ++ [x]) cs vc := by
  obtain ⟨h1, h2, h3, h4⟩ := h
  have hsz := h4.size
  obtain ⟨S, v, a1, a2, a3, a4, a5⟩ := h3.at x hx hsz (fun g hg => (h1.block hg).1)
  refine ⟨S, v, a1, a2, a3, fun o w2 v' b1 b2 b3 => ?_⟩
  have hc2 : Chg v.ownBlock.toList wr w2 := (((Chg.refl [] wr).alloc o).mono (by simp)).trans b2
  have hm : w.heap.size ∉ v.ownBlock.toList := fun g => orow_ne_map a3 a1 (toList_mem g) rfl
  refine ⟨a1.chg hc2 hm, fun w3 c1 c2 => ⟨?_, h2, ?_, ?_⟩⟩
  · refine (h1.chg hc2 (fun g hg hin => ?_)).chg c2 (fun g hg hin => ?_)
    · exact (a4 g (toList_mem hin)).2 hg
    · exact orow_ne_map h1 a1 hg (by simpa using hin)
  · refine a5 w2 w3 v' hc2 b1 ?_ c1 c2
    rcases b3 with k | k
    · exact .inl k
    · exact .inr ⟨_, k, by rw [size_alloc]; omega⟩
  · refine (h4.above hc2 (fun g hg => .inr (a4 g (toList_mem hg)).1)).above c2 (fun g hg => .inr ?_)
    have : g = w.heap.size := by simpa using hg
    omega
theorem Mid.skip {w wr : World} {kw : List ByteArray} {i : Nat} {br cs : List Nat} {vc : Value} (h : Mid w wr kw i br cs vc) (x : Nat) (hx : chAt (wd kw x) i = 0) : Mid w wr kw i (br ++ [x]) cs vc := ⟨h.1, h.2.1, h.2.2.1.skip x hx, h.2.2.2⟩
end Go.Proofs.Ytddcjmdcpkmnjaa.Da
namespace Go.Proofs.Ytddcjmdcpkmnjaa.Da
open Go.RowKit Go.Proofs.YtddcjmdcpkmnjaaW.PrintWords Go.Proofs.Ytddcjmdcpkmnjaa.Gn
structure AddPre (w : World) (v b n : Nat) (B C : Nat → Int) (p k i : Nat) (br : List Nat) (gb cb gk ck gi ci : Nat) (U : List Nat) (kw : List ByteArray) (ids : List Int) : Prop where
  da : At w v b n B C
  brs : RowAt w gb i64 br
  kws : RowAt w gk Value.string kw
  idr : RowAt w gi (Value.int .i64) ids
  ne : gb ≠ b ∧ gk ≠ b ∧ gi ≠ b
  caps : br.length ≤ cb ∧ kw.length ≤ ck ∧ ids.length ≤ ci
  n1 : n ≤ 60000
  n2 : 41000 ≤ n
  inv : Inv n B C
  used : Used n C U
  cnt : U.length + cnt kw i br ≤ 1300
  brl : br.length ≤ 30
  pn : p < n
  pu : p = 0 ∨ 0 ≤ C p
  p0 : p = 0 → B 0 = 1 ∧ ∀ r, 1 ≤ r → r < n → C r < 0
  kids : ∀ r, 1 ≤ r → r < n → C r ≠ (p : Int)
  fit : Fit kw k i br
  i1 : i ≤ 2000
  kwl : kw.length ≤ 30
  idl : ids.length = kw.length
  ids2 : ∀ x ∈ ids, 0 ≤ x ∧ x ≤ 1100000
  sz : ∀ s ∈ kw, s.size ≤ 1000
  nz : ∀ s ∈ kw, ∀ j, j < s.size → (s.get! j).toNat ≠ 0
def AddPost (w w' : World) (v b n p k i : Nat) (B C : Nat → Int) (kw : List ByteArray) (ids : List Int) (br U : List Nat) : Prop :=
  ∃ B' C', At w' v b n B' C' ∧ Chg [b] w w' ∧ Added n p k i B C kw ids br U B' C'
theorem info5 : (Try.prog.info? 5).map (fun i => (i.zero, i.size, i.bytes)) = some (some (.int .u8 0), 1, 1) := by kernel_rfl
theorem info3 : (Try.prog.info? 3).map (fun i => (i.zero, i.size, i.bytes)) = some (some (.int .i64 0), 1, 8) := by kernel_rfl
theorem zeroIS (w : World) : (zeroValue 23).run Try.prog w = .ok (.slice none 0 0) w := by kernel_rfl
/-- Behind j rounds of the first loop. -/
def First (w wr : World) (kw : List ByteArray) (i : Nat) (br : List Nat) (vc : Value) : Prop := Mid w wr kw i br (chsOf kw i br) vc
theorem wd_at (kw : List ByteArray) {x : Nat} (h : x < kw.length) : wd kw x = kw[x] := by
  unfold wd
  rw [List.getD_eq_getElem?_getD, List.getElem?_eq_getElem h]; rfl
theorem cell_box (w : World) (x : Value) (t : TypeId) : (w.alloc (.cells #[x] t)).cell? ⟨w.heap.size, 0, none⟩ = some x := by
  have := heap_alloc_new w (.cells #[x] t)
  unfold World.cell?
  rw [show (w.alloc (.cells #[x] t)).heap[(⟨w.heap.size, 0, none⟩ : Addr).block]? = _ from this]
  rfl
theorem last_or (cs : List Nat) : cs = [] ∨ ∃ ini l, cs = ini ++ [l] := by
  rcases List.eq_nil_or_concat cs with h | ⟨ini, l, h⟩
  · exact .inl h
  · exact .inr ⟨ini, l, by simpa using h⟩
theorem addCh_nil (c : Nat) : addCh [] c = [] ++ [c] := rfl
theorem addCh_eq (ini : List Nat) {l c : Nat} (h : l = c) : addCh (ini ++ [l]) c = ini ++ [l] := by simp [addCh, h]
theorem addCh_ne (ini : List Nat) {l c : Nat} (h : l ≠ c) : addCh (ini ++ [l]) c = ini ++ [l] ++ [c] := by simp [addCh, h]
set_option maxHeartbeats 2000000 in
set_option maxRecDepth 100000 in
theorem add_calls (kw : List ByteArray) (ids : List Int) : ∀ (k : Nat) (w : World) (v b n : Nat) (B C : Nat → Int) (p i : Nat) (br : List Nat) (gb cb gk ck gi ci : Nat) (U : List Nat), AddPre w v b n B C p k i br gb cb gk ck gi ci U kw ids →
    Calls Try.prog 49 #[.pointer (some ⟨v, 0, none⟩), .int .i64 p, .int .i64 i, .slice (some ⟨gb, 0, none⟩) br.length cb, .slice (some ⟨gk, 0, none⟩) kw.length ck, .slice (some ⟨gi, 0, none⟩) ids.length ci] w fun e w' => e = .returned (.tuple #[]) ∧ AddPost w w' v b n p k i B C kw ids br U := by
  intro k
  induction k with
  | zero => intro w v b n B C p i br gb cb gk ck gi ci U h; exact h.fit.elim
  | succ k ih =>
    intro w v b n B C p i br gb cb gk ck gi ci U h
    have IH := Aside0.mk ih
    clear ih
    have H := Aside0.mk h
    have hfit := h.fit
    unfold Fit at hfit
    have HF := Aside0.mk hfit
    have hi1 := h.i1
    have hbl := h.brl
    have hkl := h.kwl
    have hcb := h.caps.1
    have hck := h.caps.2.1
    have HM := Aside0.mk (show First w (w.alloc (.map #[] 0)) kw i [] (.slice none 0 0) from Mid.start w kw i)
    clear h hfit
    have hmm := @run_makeMap Try.prog
    go_enter Try.func49, Try.ntmps49
    go_wp2_with fail
    clear hmm
    go_loopw [12, 25] (fun v12 v25 wr => ∃ j : Nat, v25 = .int .i64 j ∧ Aside0 (j ≤ br.length) ∧ Aside0 (First w wr kw i (br.take j) v12)) (fun _ v25 _ => br.length - (intOf v25).toNat)
    case atStart => exact ⟨0, rfl, ⟨Nat.zero_le _⟩, HM⟩
    case round =>
      clear HM
      obtain ⟨j, rfl, HJ, HFI⟩ := hrel
      by_cases hlt : j < br.length
      · obtain ⟨cs, hcs⟩ : ∃ cs, cs = chsOf kw i (br.take j) := ⟨_, rfl⟩
        have hm0 := HFI.out
        unfold First at hm0
        rw [← hcs] at hm0
        have hcg := hm0.2.2.2
        have hcl := length_chsOf kw i (br.take j)
        rw [← hcs, List.length_take] at hcl
        have hcl2 : cs.length ≤ 30 := by omega
        obtain ⟨x, hx⟩ : ∃ x, x = br[j] := ⟨_, rfl⟩
        have hxm : x ∈ br := by rw [hx]; exact List.getElem_mem _
        have hxk : x < kw.length := (HF.out.2.1 x hxm).1
        have c1 : wr.cell? ⟨gb, j, none⟩ = some (.int .i64 x) := by
          have := (H.out.brs.chg hcg (by simp)) j hlt
          rw [this, ← hx]; rfl
        obtain ⟨s, hs⟩ : ∃ s, s = wd kw x := ⟨_, rfl⟩
        have c2 : wr.cell? ⟨gk, x, none⟩ = some (.string s) := by
          have := (H.out.kws.chg hcg (by simp)) x hxk
          rw [this, hs, wd_at kw hxk]
        have hsm : s ∈ kw := by rw [hs, wd_at kw hxk]; exact List.getElem_mem _
        have hsz : s.size ≤ 1000 := H.out.sz s hsm
        have HNZ := Aside0.mk (H.out.nz s hsm)
        have k1 : decide ((0:Int) ≤ (j:Int)) = true := decide_eq_true (by omega)
        have k2 : decide ((j:Int) < (br.length:Int)) = true := decide_eq_true (by omega)
        have k3 : decide ((0:Int) ≤ (x:Int)) = true := decide_eq_true (by omega)
        have k4 : decide ((x:Int) < (kw.length:Int)) = true := decide_eq_true (by omega)
        have HT := Aside0.mk (show br.take (j + 1) = br.take j ++ [x] by rw [List.take_succ_eq_append_getElem hlt, ← hx])
        have HCE := Aside0.mk (show chsOf kw i (br.take (j + 1)) = addCh cs (chAt s i) by rw [HT.out, chsOf_append, ← hcs, ← hs])
        have HS := Aside0.mk hs
        clear hcs hx hs hcg hcl hxm HFI hsm
        by_cases hsi : s.size ≤ i
        · have HC0 : Aside0 (0 = chAt s i) := ⟨by unfold chAt; rw [if_neg (by omega)]⟩
          rcases last_or cs with rfl | ⟨ini, l, rfl⟩
          · skip
            have e9 : (List.map u8 ([] : List Nat)).length = 0 := rfl
            obtain ⟨A, cp, e, hl1, hl2, hl3⟩ := hm0.1.slice
            rw [e9] at e hl1
            subst e
            have HM0 := Aside0.mk hm0
            clear hm0 hl2 hl3 hcl2 e9
            go_wp2_with (first | (refine wpList_toBytes rfl _ _ _ _ rfl s rfl Try.underlying9 Try.underlying81 Try.underlying5 ?_; intro w1 cap1 hc1 hs1 hb1 hcap1; have HM1 := Aside0.mk (HM0.out.chg hc1); clear hc1 hb1 hs1 HM0) | (at_builtin; refine wpList_append1 rfl _ _ 81 rfl 5 (.int .u8 0) 1 Try.underlying81 info5 rfl _ (([] : List Nat).map u8) rfl (HM1.out.1.chg ((Chg.refl [] w1).alloc _) (fun _ _ => by simp)) w1.heap.size (u8 0) rfl (cell_box w1 _ _) rfl ?s1 ?s2 ?_; (case s1 => (simp <;> omega)); (case s2 => (simp <;> (unfold maxLen; omega))); intro v2 w2 hr2 hc2 ho2; have HM2 := Aside0.mk (HM1.out.app hr2 hc2 ho2); clear hr2 hc2 ho2 HM1))
            go_roundw
            case rel =>
              refine ⟨j + 1, by go_num, ⟨by omega⟩, ⟨?_⟩⟩
              unfold First
              rw [HCE.out, ← HC0.out, addCh_nil]
              rw [HT.out]; exact HM2.out.skip x (by rw [← HS.out]; exact HC0.out.symm)
            case measure => simp [intOf]; omega
          · by_cases hlc : l = 0
            · skip
              have e9 : (List.map u8 (ini ++ [l])).length = ini.length + 1 := by simp
              obtain ⟨A, cp, e, hl1, hl2, hl3⟩ := hm0.1.slice
              rw [e9] at e hl1
              obtain ⟨g, hg⟩ := hl2 (by simp)
              subst hg
              subst e
              have c3 : wr.cell? ⟨g, ini.length, none⟩ = some (.int .u8 l) := by
                have := hm0.1.cell ini.length (by simp)
                simpa [u8] using this
              have hil : ini.length ≤ 30 := by simp at hcl2; omega
              have q1 : (((ini.length : Int) + 1) == 0) = false := beq_eq_false_iff_ne.2 (by omega)
              have q2 : ((ini.length + 1) == 0) = false := beq_eq_false_iff_ne.2 (by omega)
              have q3 : decide ((0:Int) ≤ (ini.length:Int)) = true := decide_eq_true (by omega)
              have q4 : ((l : Int) != 0) = false := bne_eq_false_iff_eq.2 (by omega)
              have q5 : (l != 0) = false := bne_eq_false_iff_eq.2 (by omega)
              have HM0 := Aside0.mk hm0
              clear hm0 hl2 hl3 hcl2 e9
              go_wp2_with (first | (refine wpList_toBytes rfl _ _ _ _ rfl s rfl Try.underlying9 Try.underlying81 Try.underlying5 ?_; intro w1 cap1 hc1 hs1 hb1 hcap1; have d3 := (World.cell?_of_block (w := wr) (hc1.block g (World.block_lt_of_cell? wr _ c3) (by simp))).trans c3; have HM1 := Aside0.mk (HM0.out.chg hc1); clear hc1 hb1 hs1 HM0))
              go_roundw
              case rel =>
                refine ⟨j + 1, by go_num, ⟨by omega⟩, ⟨?_⟩⟩
                unfold First
                rw [HCE.out, ← HC0.out, addCh_eq _ hlc]
                rw [HT.out]; exact HM1.out.skip x (by rw [← HS.out]; exact HC0.out.symm)
              case measure => simp [intOf]; omega
            · skip
              have e9 : (List.map u8 (ini ++ [l])).length = ini.length + 1 := by simp
              obtain ⟨A, cp, e, hl1, hl2, hl3⟩ := hm0.1.slice
              rw [e9] at e hl1
              obtain ⟨g, hg⟩ := hl2 (by simp)
              subst hg
              subst e
              have c3 : wr.cell? ⟨g, ini.length, none⟩ = some (.int .u8 l) := by
                have := hm0.1.cell ini.length (by simp)
                simpa [u8] using this
              have hil : ini.length ≤ 30 := by simp at hcl2; omega
              have q1 : (((ini.length : Int) + 1) == 0) = false := beq_eq_false_iff_ne.2 (by omega)
              have q2 : ((ini.length + 1) == 0) = false := beq_eq_false_iff_ne.2 (by omega)
              have q3 : decide ((0:Int) ≤ (ini.length:Int)) = true := decide_eq_true (by omega)
              have q4 : ((l : Int) != 0) = true := bne_iff_ne.2 (by omega)
              have q5 : (l != 0) = true := bne_iff_ne.2 (by omega)
              have HM0 := Aside0.mk hm0
              clear hm0 hl2 hl3 hcl2 e9
              go_wp2_with (first | (refine wpList_toBytes rfl _ _ _ _ rfl s rfl Try.underlying9 Try.underlying81 Try.underlying5 ?_; intro w1 cap1 hc1 hs1 hb1 hcap1; have d3 := (World.cell?_of_block (w := wr) (hc1.block g (World.block_lt_of_cell? wr _ c3) (by simp))).trans c3; have HM1 := Aside0.mk (HM0.out.chg hc1); clear hc1 hb1 hs1 HM0) | (at_builtin; refine wpList_append1 rfl _ _ 81 rfl 5 (.int .u8 0) 1 Try.underlying81 info5 rfl _ ((ini ++ [l]).map u8) rfl (HM1.out.1.chg ((Chg.refl [] w1).alloc _) (fun _ _ => by simp)) w1.heap.size (u8 0) rfl (cell_box w1 _ _) rfl ?s1 ?s2 ?_; (case s1 => (simp <;> omega)); (case s2 => (simp <;> (unfold maxLen; omega))); intro v2 w2 hr2 hc2 ho2; have HM2 := Aside0.mk (HM1.out.app hr2 hc2 ho2); clear hr2 hc2 ho2 HM1))
              go_roundw
              case rel =>
                refine ⟨j + 1, by go_num, ⟨by omega⟩, ⟨?_⟩⟩
                unfold First
                rw [HCE.out, ← HC0.out, addCh_ne _ hlc]
                rw [HT.out]; exact HM2.out.skip x (by rw [← HS.out]; exact HC0.out.symm)
              case measure => simp [intOf]; omega
        · have hlt2 : i < s.size := by omega
          obtain ⟨c0, hc0⟩ : ∃ c0, c0 = (s.get! i).toNat := ⟨_, rfl⟩
          have hcn : c0 ≠ 0 := by rw [hc0]; exact HNZ.out i hlt2
          have h255 : c0 ≤ 255 := by rw [hc0]; have := (s.get! i).toNat_lt; omega
          have HCA : Aside0 (c0 = chAt s i) := ⟨by unfold chAt; rw [if_pos hlt2]; exact hc0⟩
          have HC0 := Aside0.mk hc0
          have HCN : Aside0 (chAt (wd kw x) i ≠ 0) := ⟨by rw [← HS.out, ← HCA.out]; exact hcn⟩
          clear hc0
          rcases last_or cs with rfl | ⟨ini, l, rfl⟩
          · skip
            have e9 : (List.map u8 ([] : List Nat)).length = 0 := rfl
            obtain ⟨A, cp, e, hl1, hl2, hl3⟩ := hm0.1.slice
            rw [e9] at e hl1
            subst e
            have r1 : (((c0 : Nat) : Int) != 0) = true := bne_iff_ne.2 (by omega)
            have r2 : (c0 != 0) = true := bne_iff_ne.2 (by omega)
            have HM0 := Aside0.mk hm0
            clear hm0 hl2 hl3 hcl2 e9
            go_wp2_with (first | (refine wpList_toBytes rfl _ _ _ _ rfl s rfl Try.underlying9 Try.underlying81 Try.underlying5 ?_; intro w1 cap1 hc1 hs1 hb1 hcap1; have d4 := hb1 i hlt2; rw [← HC0.out] at d4; have HM1 := Aside0.mk (HM0.out.chg hc1); clear hc1 hb1 hs1 HM0) | (at_builtin; refine wpList_append1 rfl _ _ 81 rfl 5 (.int .u8 0) 1 Try.underlying81 info5 rfl _ (([] : List Nat).map u8) rfl (HM1.out.1.chg ((Chg.refl [] w1).alloc _) (fun _ _ => by simp)) w1.heap.size (u8 c0) rfl (cell_box w1 _ _) rfl ?s1 ?s2 ?_; (case s1 => (simp <;> omega)); (case s2 => (simp <;> (unfold maxLen; omega))); intro v2 w2 hr2 hc2 ho2; have HM2 := Aside0.mk (HM1.out.app hr2 hc2 ho2); clear hr2 hc2 ho2 HM1) | (at_lookup; have hpl := HM2.out.place x HCN.out; rw [← HS.out, ← HCA.out] at hpl; obtain ⟨S, pv, p1, p2, p3, p4⟩ := hpl; refine wpList_lookup rfl _ _ _ false rfl rfl (c0 : Int) rfl p1 (keyInt Try.underlying5) Try.underlying82 (.slice none 0 0) zeroIS ?_; rw [if_neg (by decide), p2]; have P3 := Aside0.mk p3; have P4 := Aside0.mk p4; clear p1 p2 p3 p4) | (at_builtin; refine wpList_append1 rfl _ _ 23 rfl 3 (.int .i64 0) 8 Try.underlying23 info3 rfl _ _ rfl (P3.out.chg ((Chg.refl [] w2).alloc _) (fun _ _ => by simp)) w2.heap.size (i64 x) rfl (cell_box w2 _ _) rfl ?s1 ?s2 ?_; (case s1 => rw [List.length_map]; have := List.length_filter_le (fun x => decide (chAt (wd kw x) i = c0)) (br.take j); have := List.length_take_le j br; unfold sub; omega); (case s2 => rw [List.length_map]; have := List.length_filter_le (fun x => decide (chAt (wd kw x) i = c0)) (br.take j); have := List.length_take_le j br; unfold sub maxLen; omega); intro v3 w3 hr3 hc3 ho3; obtain ⟨p5, p6⟩ := P4.out _ w3 v3 hr3 hc3 ho3; have P6 := Aside0.mk p6; have P5 := Aside0.mk p5; clear hr3 hc3 ho3 p5 p6) | (at_mapUpdate; refine wpList_mapUpdate rfl _ _ _ _ rfl rfl (c0 : Int) rfl _ rfl P5.out (keyInt Try.underlying5) Try.underlying82 ?_; intro w4 h41 h42 h43; have HM4 := Aside0.mk (P6.out w4 h41 h42); clear h41 h42 h43 HM2))
            go_roundw
            case rel =>
              refine ⟨j + 1, by go_num, ⟨by omega⟩, ⟨?_⟩⟩
              unfold First
              rw [HCE.out, ← HCA.out, addCh_nil]
              rw [HT.out]; exact HM4.out
            case measure => simp [intOf]; omega
          · by_cases hlc : l = c0
            · skip
              have e9 : (List.map u8 (ini ++ [l])).length = ini.length + 1 := by simp
              obtain ⟨A, cp, e, hl1, hl2, hl3⟩ := hm0.1.slice
              rw [e9] at e hl1
              obtain ⟨g, hg⟩ := hl2 (by simp)
              subst hg
              subst e
              have c3 : wr.cell? ⟨g, ini.length, none⟩ = some (.int .u8 l) := by
                have := hm0.1.cell ini.length (by simp)
                simpa [u8] using this
              have hil : ini.length ≤ 30 := by simp at hcl2; omega
              have q1 : (((ini.length : Int) + 1) == 0) = false := beq_eq_false_iff_ne.2 (by omega)
              have q2 : ((ini.length + 1) == 0) = false := beq_eq_false_iff_ne.2 (by omega)
              have q3 : decide ((0:Int) ≤ (ini.length:Int)) = true := decide_eq_true (by omega)
              have q4 : ((l : Int) != (c0 : Int)) = false := bne_eq_false_iff_eq.2 (by omega)
              have q5 : (l != c0) = false := bne_eq_false_iff_eq.2 (by omega)
              have r1 : (((c0 : Nat) : Int) != 0) = true := bne_iff_ne.2 (by omega)
              have r2 : (c0 != 0) = true := bne_iff_ne.2 (by omega)
              have HM0 := Aside0.mk hm0
              clear hm0 hl2 hl3 hcl2 e9
              go_wp2_with (first | (refine wpList_toBytes rfl _ _ _ _ rfl s rfl Try.underlying9 Try.underlying81 Try.underlying5 ?_; intro w1 cap1 hc1 hs1 hb1 hcap1; have d3 := (World.cell?_of_block (w := wr) (hc1.block g (World.block_lt_of_cell? wr _ c3) (by simp))).trans c3; have d4 := hb1 i hlt2; rw [← HC0.out] at d4; have HM1 := Aside0.mk (HM0.out.chg hc1); clear hc1 hb1 hs1 HM0) | (at_lookup; have hpl := HM1.out.place x HCN.out; rw [← HS.out, ← HCA.out] at hpl; obtain ⟨S, pv, p1, p2, p3, p4⟩ := hpl; refine wpList_lookup rfl _ _ _ false rfl rfl (c0 : Int) rfl p1 (keyInt Try.underlying5) Try.underlying82 (.slice none 0 0) zeroIS ?_; rw [if_neg (by decide), p2]; have P3 := Aside0.mk p3; have P4 := Aside0.mk p4; clear p1 p2 p3 p4) | (at_builtin; refine wpList_append1 rfl _ _ 23 rfl 3 (.int .i64 0) 8 Try.underlying23 info3 rfl _ _ rfl (P3.out.chg ((Chg.refl [] w1).alloc _) (fun _ _ => by simp)) w1.heap.size (i64 x) rfl (cell_box w1 _ _) rfl ?s1 ?s2 ?_; (case s1 => rw [List.length_map]; have := List.length_filter_le (fun x => decide (chAt (wd kw x) i = c0)) (br.take j); have := List.length_take_le j br; unfold sub; omega); (case s2 => rw [List.length_map]; have := List.length_filter_le (fun x => decide (chAt (wd kw x) i = c0)) (br.take j); have := List.length_take_le j br; unfold sub maxLen; omega); intro v3 w3 hr3 hc3 ho3; obtain ⟨p5, p6⟩ := P4.out _ w3 v3 hr3 hc3 ho3; have P6 := Aside0.mk p6; have P5 := Aside0.mk p5; clear hr3 hc3 ho3 p5 p6) | (at_mapUpdate; refine wpList_mapUpdate rfl _ _ _ _ rfl rfl (c0 : Int) rfl _ rfl P5.out (keyInt Try.underlying5) Try.underlying82 ?_; intro w4 h41 h42 h43; have HM4 := Aside0.mk (P6.out w4 h41 h42); clear h41 h42 h43 HM1))
              go_roundw
              case rel =>
                refine ⟨j + 1, by go_num, ⟨by omega⟩, ⟨?_⟩⟩
                unfold First
                rw [HCE.out, ← HCA.out, addCh_eq _ hlc]
                rw [HT.out]; exact HM4.out
              case measure => simp [intOf]; omega
            · skip
              have e9 : (List.map u8 (ini ++ [l])).length = ini.length + 1 := by simp
              obtain ⟨A, cp, e, hl1, hl2, hl3⟩ := hm0.1.slice
              rw [e9] at e hl1
              obtain ⟨g, hg⟩ := hl2 (by simp)
              subst hg
              subst e
              have c3 : wr.cell? ⟨g, ini.length, none⟩ = some (.int .u8 l) := by
                have := hm0.1.cell ini.length (by simp)
                simpa [u8] using this
              have hil : ini.length ≤ 30 := by simp at hcl2; omega
              have q1 : (((ini.length : Int) + 1) == 0) = false := beq_eq_false_iff_ne.2 (by omega)
              have q2 : ((ini.length + 1) == 0) = false := beq_eq_false_iff_ne.2 (by omega)
              have q3 : decide ((0:Int) ≤ (ini.length:Int)) = true := decide_eq_true (by omega)
              have q4 : ((l : Int) != (c0 : Int)) = true := bne_iff_ne.2 (by omega)
              have q5 : (l != c0) = true := bne_iff_ne.2 (by omega)
              have r1 : (((c0 : Nat) : Int) != 0) = true := bne_iff_ne.2 (by omega)
              have r2 : (c0 != 0) = true := bne_iff_ne.2 (by omega)
              have HM0 := Aside0.mk hm0
              clear hm0 hl2 hl3 hcl2 e9
              go_wp2_with (first | (refine wpList_toBytes rfl _ _ _ _ rfl s rfl Try.underlying9 Try.underlying81 Try.underlying5 ?_; intro w1 cap1 hc1 hs1 hb1 hcap1; have d3 := (World.cell?_of_block (w := wr) (hc1.block g (World.block_lt_of_cell? wr _ c3) (by simp))).trans c3; have d4 := hb1 i hlt2; rw [← HC0.out] at d4; have HM1 := Aside0.mk (HM0.out.chg hc1); clear hc1 hb1 hs1 HM0) | (at_builtin; refine wpList_append1 rfl _ _ 81 rfl 5 (.int .u8 0) 1 Try.underlying81 info5 rfl _ ((ini ++ [l]).map u8) rfl (HM1.out.1.chg ((Chg.refl [] w1).alloc _) (fun _ _ => by simp)) w1.heap.size (u8 c0) rfl (cell_box w1 _ _) rfl ?s1 ?s2 ?_; (case s1 => (simp <;> omega)); (case s2 => (simp <;> (unfold maxLen; omega))); intro v2 w2 hr2 hc2 ho2; have HM2 := Aside0.mk (HM1.out.app hr2 hc2 ho2); clear hr2 hc2 ho2 HM1) | (at_lookup; have hpl := HM2.out.place x HCN.out; rw [← HS.out, ← HCA.out] at hpl; obtain ⟨S, pv, p1, p2, p3, p4⟩ := hpl; refine wpList_lookup rfl _ _ _ false rfl rfl (c0 : Int) rfl p1 (keyInt Try.underlying5) Try.underlying82 (.slice none 0 0) zeroIS ?_; rw [if_neg (by decide), p2]; have P3 := Aside0.mk p3; have P4 := Aside0.mk p4; clear p1 p2 p3 p4) | (at_builtin; refine wpList_append1 rfl _ _ 23 rfl 3 (.int .i64 0) 8 Try.underlying23 info3 rfl _ _ rfl (P3.out.chg ((Chg.refl [] w2).alloc _) (fun _ _ => by simp)) w2.heap.size (i64 x) rfl (cell_box w2 _ _) rfl ?s1 ?s2 ?_; (case s1 => rw [List.length_map]; have := List.length_filter_le (fun x => decide (chAt (wd kw x) i = c0)) (br.take j); have := List.length_take_le j br; unfold sub; omega); (case s2 => rw [List.length_map]; have := List.length_filter_le (fun x => decide (chAt (wd kw x) i = c0)) (br.take j); have := List.length_take_le j br; unfold sub maxLen; omega); intro v3 w3 hr3 hc3 ho3; obtain ⟨p5, p6⟩ := P4.out _ w3 v3 hr3 hc3 ho3; have P6 := Aside0.mk p6; have P5 := Aside0.mk p5; clear hr3 hc3 ho3 p5 p6) | (at_mapUpdate; refine wpList_mapUpdate rfl _ _ _ _ rfl rfl (c0 : Int) rfl _ rfl P5.out (keyInt Try.underlying5) Try.underlying82 ?_; intro w4 h41 h42 h43; have HM4 := Aside0.mk (P6.out w4 h41 h42); clear h41 h42 h43 HM2))
              go_roundw
              case rel =>
                refine ⟨j + 1, by go_num, ⟨by omega⟩, ⟨?_⟩⟩
                unfold First
                rw [HCE.out, ← HCA.out, addCh_ne _ hlc]
                rw [HT.out]; exact HM4.out
              case measure => simp [intOf]; omega
      · have hj : j = br.length := by have := HJ.out; omega
        have hfi := HFI.out
        rw [hj, List.take_length] at hfi
        unfold First at hfi
        have z1 : decide (j < br.length) = false := decide_eq_false hlt
        have z2 : decide ((j:Int) < (br.length:Int)) = false := decide_eq_false (by omega)
        clear hj HJ HFI
        obtain ⟨chs, hchs⟩ : ∃ chs, chs = chsOf kw i br := ⟨_, rfl⟩
        rw [← hchs] at hfi
        have hne : chs ≠ [] := by rw [hchs]; exact chsOf_ne_nil kw i HF.out.1
        have hcl : chs.length ≤ br.length := by rw [hchs]; exact length_chsOf kw i br
        obtain ⟨rep, chs', hrc⟩ : ∃ rep chs', chs = rep :: chs' := by
          cases chs with
          | nil => exact absurd rfl hne
          | cons r t => exact ⟨r, t, rfl⟩
        obtain ⟨A, cp, e, hl1, hl2, hl3⟩ := hfi.1.slice
        rw [List.length_map] at e hl1
        obtain ⟨g, hg⟩ := hl2 (by rw [hrc]; simp)
        subst hg
        subst e
        have hgw : w.heap.size ≤ g := hfi.2.1 g rfl
        have hcg := hfi.2.2.2
        have hbl2 := H.out.da.lt
        have hch : Chs wr g chs := RowAt.of_row hfi.1
        have h255 : ∀ c ∈ chs, c ≤ 255 := fun c hc => by
          rw [hchs] at hc
          obtain ⟨x, _, rfl⟩ := (mem_chsOf kw i br c).1 hc
          exact chAt_le _ _
        have hnd : chs.Nodup := by rw [hchs]; exact HF.out.2.2.1
        have hul : U.length * chs.length ≤ 1300 * 30 := Nat.mul_le_mul (by have := H.out.cnt; omega) (by omega)
        obtain ⟨f, kk, hsk⟩ := H.out.inv.seek H.out.used rep chs (h255 rep (by rw [hrc]; simp)) h255 (by have := H.out.n2; have := H.out.cnt; omega) (by rw [hrc]; simp)
        have hbase : ∃ base : Nat, (p = 0 → B 0 = (base : Int) ∧ 1 ≤ base ∧ ∀ c ∈ chs, base + c < n ∧ C (base + c) < 0) ∧ (p ≠ 0 → f kk = base + rep) ∧ 1 ≤ base ∧ base < 60000 := by
          have hn1 := H.out.n1
          have hn2 := H.out.n2
          by_cases hp0 : p = 0
          · obtain ⟨z1, z2⟩ := H.out.p0 hp0
            refine ⟨1, fun _ => ⟨z1, Nat.le_refl _, fun c hc => ?_⟩, fun q => absurd hp0 q, Nat.le_refl _, by omega⟩
            have := h255 c hc
            exact ⟨by omega, z2 _ (by omega) (by omega)⟩
          · have hlo := hsk.lo
            have hfit := (hsk.fits rep (by rw [hrc]; simp)).1
            exact ⟨f kk - rep, fun q => absurd q hp0, fun _ => by omega, by omega, by omega⟩
        obtain ⟨base, hb0, hb1, hb2, hb3⟩ := hbase
        have HSK := Aside0.mk (seek_calls wr v b n B C p g cp rep chs f kk U (H.out.da.chg hcg (by simp) (by simp)) hch (by omega) (by omega) H.out.pn H.out.n1 H.out.inv H.out.used H.out.pu hsk (by rw [hrc]; rfl) hnd h255 (by have := H.out.n2; have := H.out.cnt; omega) hl1 base hb0 hb1)
        have HCH := Aside0.mk hch
        have HFI := Aside0.mk hfi
        have HCHS := Aside0.mk hchs
        have H255 := Aside0.mk h255
        have HND := Aside0.mk hnd
        have hc30 : chs.length ≤ 30 := by omega
        clear hch hfi hchs h255 hnd hsk hb0 hb1 hl2 hl3 hul hne hrc hcg hl1 hlt
        go_wp2_with (go_at_call 53; refine HSK.out.mono ?_; rintro e w2 ⟨rfl, B1, C1, ha2, hc2, hm2⟩; have HA2 := Aside0.mk ha2; have HC2 := Aside0.mk hc2; have HM2 := Aside0.mk hm2; clear ha2 hc2 hm2 HSK)
        clear z1 z2
        have hgs := Aside0.mk (show Grow n p base k i B C C1 kw ids br U 0 B1 C1 ((chsOf kw i br).map (base + ·) ++ U) from Grow.start (by rw [← HCHS.out]; exact HM2.out) H.out.inv H.out.used hb2 H.out.pu H.out.pn H.out.kids)
        have hsm2 := Aside0.mk (HFI.out.2.2.1.chg HC2.out (by have := hbl2.2; simp; omega) (fun q hq => .inl (by rw [List.mem_singleton.1 hq]; omega)))
        have hch2 := Aside0.mk (HCH.out.chg HC2.out (by simp; omega))
        have hc20 := Aside0.mk (((HFI.out.2.2.2).mono (T := [b]) (by simp)).trans HC2.out)
        have hw2 : w.heap.size ≤ w2.heap.size := hc20.out.size
        clear HFI HCH
        go_loopw [77] (fun v77 wr => ∃ (j : Nat) (Bj Cj : Nat → Int) (Uj : List Nat), v77 = .int .i64 j ∧ Aside0 (j ≤ chs.length) ∧ Aside0 (At wr v b n Bj Cj) ∧ Aside0 (Grow n p base k i B C C1 kw ids br U j Bj Cj Uj) ∧ Aside0 (Chg [b] w2 wr)) (fun v77 _ => chs.length - (intOf v77).toNat)
        case atStart => exact ⟨0, _, _, _, rfl, ⟨Nat.zero_le _⟩, HA2, hgs, ⟨Chg.refl _ _⟩⟩
        case round =>
          clear HA2 hgs
          obtain ⟨j, Bj, Cj, Uj, rfl, HJ, HAj, HGj, HCj⟩ := hrel
          by_cases hlt : j < chs.length
          · obtain ⟨c, hc⟩ : ∃ c, c = chs[j] := ⟨_, rfl⟩
            have hcm : c ∈ chs := by rw [hc]; exact List.getElem_mem _
            have hc255 : c ≤ 255 := H255.out c hcm
            have hkid := HGj.out.kids c (by rw [← HCHS.out]; exact hcm)
            have hq1 : base + c < n := hkid.1
            have hn1 := H.out.n1
            have hpn := H.out.pn
            have d1 := (hch2.out.chg HCj.out (by simp; omega)) j hlt
            rw [← hc] at d1
            have d2 := HAj.out.cell
            have d3 := HAj.out.base p hpn
            rw [HGj.out.bp] at d3
            have hcw := hc20.out.trans HCj.out
            have hblt := hbl2.2
            obtain ⟨S, sv, s1, s2, s3, s4⟩ := (hsm2.out.chg HCj.out (by simp; omega) (fun q hq => .inl (by rw [List.mem_singleton.1 hq]; omega))).get c
            obtain ⟨SA, scp, se, sl1, sl2, sl3⟩ := s3.slice
            rw [List.length_map] at se sl1
            have k1 : decide ((0:Int) ≤ (j:Int)) = true := decide_eq_true (by omega)
            have k2 : decide ((j:Int) < (chs.length:Int)) = true := decide_eq_true (by omega)
            have k3 : decide (j < chs.length) = true := decide_eq_true hlt
            have k4 : decide ((0:Int) ≤ (p:Int)) = true := decide_eq_true (by omega)
            have k5 : decide ((p:Int) < (n:Int)) = true := decide_eq_true (by omega)
            have HS1 := Aside0.mk s1
            have HS2 := Aside0.mk s2
            have HCC : Aside0 (c = (chsOf kw i br)[j]'(by rw [← HCHS.out]; exact hlt)) := ⟨by rw [hc]; congr 1; exact HCHS.out⟩
            have HU1 : Aside0 (∀ c ∈ chsOf kw i br, 0 ≤ C1 (base + c)) := ⟨fun c hc => by have := (HM2.out.new c (by rw [HCHS.out]; exact hc)).2.2; omega⟩
            have HCM := Aside0.mk hcm
            have HKID := Aside0.mk hkid
            have HJ1 : Aside0 (j < (chsOf kw i br).length) := ⟨by rw [← HCHS.out]; exact hlt⟩
            have HCW := Aside0.mk hcw
            clear hc hcm hkid s1 s2 hcw
            by_cases hc0 : c = 0
            · have e0 : subz kw i br c = [] := by rw [hc0]; rfl
              rw [e0] at se
              simp only [List.length_nil] at se
              subst se
              have HGL := Aside0.mk (HGj.out.leaf HJ1.out (by rw [← HCC.out]; exact hc0) H.out.pu hb2 HF.out.2.2.1 HU1.out)
              obtain ⟨x0, br', hbr⟩ : ∃ x0 br', br = x0 :: br' := by
                have hne := HF.out.1
                cases br with
                | nil => exact absurd rfl hne
                | cons a t => exact ⟨a, t, rfl⟩
              have hbr0 : 0 < br.length := by rw [hbr]; simp
              have hx0 : x0 < kw.length := (HF.out.2.1 x0 (by rw [hbr]; simp)).1
              have hidl := H.out.idl
              have hx0i : x0 < ids.length := by omega
              have f1 : wr.cell? ⟨gb, 0, none⟩ = some (.int .i64 x0) := by
                have := (H.out.brs.chg HCW.out (by have := H.out.ne.1; simpa using this)) 0 hbr0
                rw [this]
                simp [hbr, i64]
              obtain ⟨idv, hid⟩ : ∃ idv, idv = ids[x0] := ⟨_, rfl⟩
              have f2 : wr.cell? ⟨gi, x0, none⟩ = some (.int .i64 idv) := by
                have := (H.out.idr.chg HCW.out (by have := H.out.ne.2.2; simpa using this)) x0 hx0i
                rw [this, hid]
              have f3 := H.out.ids2 idv (by rw [hid]; exact List.getElem_mem _)
              have f4 := HAj.out.base (base + c) hq1
              have f5 := HAj.out.frozen ((base + c) * 2) none
              have g1 : ((base : Int) + (c : Int)).toNat = base + c := by omega
              have g2 : decide ((0:Int) ≤ (base:Int) + (c:Int)) = true := decide_eq_true (by omega)
              have g3 : decide ((base:Int) + (c:Int) < (n:Int)) = true := decide_eq_true (by omega)
              have g21 : (0:Int) ≤ (base:Int) + (c:Int) := by omega
              have g31 : (base:Int) + (c:Int) < (n:Int) := by omega
              have g4 : decide ((0:Int) ≤ (x0:Int)) = true := decide_eq_true (by omega)
              have g5 : decide ((x0:Int) < (ids.length:Int)) = true := decide_eq_true (by omega)
              have g6 : decide ((0:Int) < (br.length:Int)) = true := decide_eq_true (by omega)
              have g7 : (((ids.length : Nat) : Int) == 0) = false := beq_eq_false_iff_ne.2 (by omega)
              have g8 : (ids.length == 0) = false := beq_eq_false_iff_ne.2 (by omega)
              have g9 : IntKind.i64.wrap (-idv) = -idv := wrap_neg f3.1 (by omega)
              have g10 : IntKind.i32.wrap (-idv) = -idv := wrap32n f3.1 (by omega)
              have HIDV : Aside0 (ids.getD (br.headD 0) 0 = idv) := ⟨by rw [hbr, hid, List.headD_cons, List.getD_eq_getElem?_getD, List.getElem?_eq_getElem hx0i]; rfl⟩
              have HC0 := Aside0.mk hc0
              clear hbr hid f3 e0 sl2 sl3 s4 hc0 hidl
              go_wp2_with (at_lookup; refine wpList_lookup rfl _ _ _ false rfl rfl (c : Int) rfl HS1.out (keyInt Try.underlying5) Try.underlying82 (.slice none 0 0) zeroIS ?_; rw [if_neg (by decide), HS2.out])
              refine still_tail 14 (by kernel_rfl) (by kernel_rfl) ?_
              intro w7 e7
              have HA7 : Aside0 (At w7 v b n Bj Cj) := ⟨by rw [e7]; exact HAj.out.drew⟩
              have HC7 : Aside0 (Chg [b] w2 w7) := ⟨by rw [e7]; exact HCj.out.drew⟩
              have h71 : w7.cell? ⟨gb, 0, none⟩ = some (.int .i64 x0) := by rw [e7]; exact f1
              have h72 : w7.cell? ⟨gi, x0, none⟩ = some (.int .i64 idv) := by rw [e7]; exact f2
              clear e7 f1 f2 f4 f5 d1 d2 d3
              have d2 := HA7.out.cell
              have f4 := HA7.out.base (base + c) hq1
              have f5 := HA7.out.frozen ((base + c) * 2) none
              simp only [List.take_succ_cons, List.take_zero, List.drop_succ_cons, List.drop_zero]
              repeat still_step
              refine wpStill_nil ?_
              go_wp2_with fail
              go_roundw
              case rel =>
                have hg := HGL.out
                rw [HIDV.out] at hg
                refine ⟨j + 1, upd Bj (base + c) (-idv), Cj, Uj, by go_num, ⟨by omega⟩, ⟨HA7.out.setBase (base + c) _⟩, ⟨?_⟩, ⟨HC7.out.setCell (.inl (by simp)) _⟩⟩
                rw [HC0.out]
                exact hg
              case measure => simp [intOf]; omega
            · have hz : subz kw i br c = sub kw i br c := if_neg hc0
              rw [hz] at se sl1 s3 sl2
              have hcc := HCC.out
              have hfit := HF.out.2.2.2.2 c (by rw [← HCHS.out]; exact HCM.out) hc0
              have hsne : sub kw i br c ≠ [] := by
                intro e
                obtain ⟨x, x1, x2⟩ := (mem_chsOf kw i br c).1 (by rw [← HCHS.out]; exact HCM.out)
                have : x ∈ sub kw i br c := List.mem_filter.2 ⟨x1, decide_eq_true x2⟩
                rw [e] at this; cases this
              obtain ⟨gs, hgs⟩ := sl2 (by simpa using hsne)
              subst hgs
              subst se
              have hi2 : i + 1 ≤ 2000 := by
                obtain ⟨x, hx⟩ := List.exists_mem_of_ne_nil _ hsne
                have hx1 := List.mem_filter.1 hx
                have hx2 := of_decide_eq_true hx1.2
                have hxk := (HF.out.2.1 x hx1.1).1
                have := H.out.sz _ (show wd kw x ∈ kw by rw [wd_at kw hxk]; exact List.getElem_mem _)
                unfold chAt at hx2
                split at hx2
                · omega
                · omega
              have hcnt : Uj.length + cnt kw (i + 1) (sub kw i br c) ≤ 1300 := by
                have h1 := HGj.out.len
                have h2 := H.out.cnt
                have h3 := cost_all kw i br (fun x hx => (HF.out.2.1 x hx).2) HF.out.2.2.1
                have h4 : cost kw i br ((chsOf kw i br).take (j + 1)) = cost kw i br ((chsOf kw i br).take j) + cnt kw (i + 1) (sub kw i br c) := by
                  rw [take_succ_get HJ1.out, cost_append, ← hcc]
                  simp [cost, hc0]
                have h5 : cost kw i br (chsOf kw i br) = cost kw i br ((chsOf kw i br).take (j + 1)) + cost kw i br ((chsOf kw i br).drop (j + 1)) := by
                  rw [← cost_append, List.take_append_drop]
                omega
              have hpre : AddPre wr v b n Bj Cj (base + c) k (i + 1) (sub kw i br c) gs scp gk ck gi ci Uj kw ids := by
                refine ⟨HAj.out, RowAt.of_row s3, H.out.kws.chg HCW.out (by have := H.out.ne.2.1; simpa using this), H.out.idr.chg HCW.out (by have := H.out.ne.2.2; simpa using this), ⟨by have := s4 gs rfl; omega, H.out.ne.2⟩, ⟨sl1, H.out.caps.2⟩, H.out.n1, H.out.n2, HGj.out.inv, HGj.out.used, hcnt, ?_, hq1, .inr (by rw [HKID.out.2.1]; omega), fun q => by omega, HGj.out.pend c ?_, hfit, hi2, H.out.kwl, H.out.idl, H.out.ids2, H.out.sz, H.out.nz⟩
                · have := List.length_filter_le (fun x => decide (chAt (wd kw x) i = c)) br
                  unfold sub; omega
                · rw [List.drop_eq_getElem_cons HJ1.out, ← hcc]; simp
              have HIC := Aside0.mk (IH.out wr v b n Bj Cj (base + c) (i + 1) (sub kw i br c) gs scp gk ck gi ci Uj hpre)
              have HN0 : Aside0 (sub kw i br c ≠ []) := ⟨hsne⟩
              have HSUM := Aside0.mk (show ((base : Int) + (c : Int)) = ((base + c : Nat) : Int) from by omega)
              have HI1 := Aside0.mk (show ((i : Int) + 1) = ((i + 1 : Nat) : Int) from by omega)
              have hl30 : (sub kw i br c).length ≤ 30 := by
                have := List.length_filter_le (fun x => decide (chAt (wd kw x) i = c)) br
                unfold sub; omega
              have hl0 : 0 < (sub kw i br c).length := List.length_pos_iff.2 hsne
              have HBL : Aside0 (∀ B2 C2, Added n (base + c) k (i + 1) Bj Cj kw ids (sub kw i br c) Uj B2 C2 → ∃ U2, Grow n p base (k) i B C C1 kw ids br U (j + 1) B2 C2 U2) := ⟨fun B2 C2 hA => HGj.out.below HJ1.out (by rw [← hcc]; exact hc0) H.out.pu H.out.pn hb2 HF.out.2.2.1 HU1.out (by rw [← hcc]; exact hA)⟩
              have q1 : (((sub kw i br c).length : Int) == 0) = false := beq_eq_false_iff_ne.2 (by omega)
              have q2 : ((sub kw i br c).length == 0) = false := beq_eq_false_iff_ne.2 (by omega)
              clear hz sl1 sl2 sl3 s3 s4 hcc hfit hsne hcnt hpre
              go_wp2_with (first | (at_lookup; refine wpList_lookup rfl _ _ _ false rfl rfl (c : Int) rfl HS1.out (keyInt Try.underlying5) Try.underlying82 (.slice none 0 0) zeroIS ?_; rw [if_neg (by decide), HS2.out]) | (go_at_call 49; rw [HSUM.out, HI1.out]; refine HIC.out.mono ?_; rintro e w7 ⟨rfl, B2, C2, ha7, hc7, hA7⟩; obtain ⟨U2, hU2⟩ := HBL.out B2 C2 hA7; have HA7 := Aside0.mk ha7; have HC7 := Aside0.mk (HCj.out.trans hc7); have HU2 := Aside0.mk hU2; clear ha7 hc7 hA7 hU2 HIC))
              go_roundw
              case rel => exact ⟨j + 1, B2, C2, U2, by go_num, ⟨by omega⟩, HA7, HU2, HC7⟩
              case measure => simp [intOf]; omega
          · have hj : j = chs.length := by have := HJ.out; omega
            have hfin : AddPost w wr v b n p (k + 1) i B C kw ids br U := by
              have hg := HGj.out
              rw [hj, HCHS.out] at hg
              refine ⟨Bj, Cj, HAj.out, hc20.out.trans HCj.out, hg.fin hb2 (fun x hx => (HF.out.2.1 x hx).2) HF.out.2.2.1 (fun r r1 r2 r3 => ?_)⟩
              rcases Int.lt_or_le (C r) 0 with q | q
              · exact q
              · rw [HM2.out.old r r1 r2 q] at r3; omega
            have HFIN := Aside0.mk hfin
            have z1 : decide (j < chs.length) = false := decide_eq_false hlt
            have z2 : decide ((j:Int) < (chs.length:Int)) = false := decide_eq_false (by omega)
            clear hfin hj
            go_wp2_with fail
            go_end0
            exact ⟨rfl, HFIN.out⟩
end Go.Proofs.Ytddcjmdcpkmnjaa.Da
