/- General words: what has turned between two worlds; a row that is made. General words: rows of one-cell elements that are appended to; maps as lists of keys with values. The double array, plain: the list of free cells, what marking a cell does to it, and that a place for some signs is found. The double array, plain: some cells are marked, one behind the other. The double array, plain: words as a tree of signs; that cells hold it; that it stays while others are added. The double array, plain: what add does, sign by sign. The double array, plain: sorted words make a fit tree; what is found along a text. The double array, plain: what is found along a text. The double array in memory: a variable that holds a slice, and its row of cells. The double array: a cell is taken out of the list of free ones (setCheck). The double array: setBase of the root, or of a used cell. The double array: init. The double array: seekAndMark. The double array: truncate. -/
import Derived.Test.YtddcjmdcpkmnjabProg
import Derived.Test.YtddcjmdcpkmnjabWWords
import Derived.WalkKit
import Derived.ProofKit
import Derived.Below
import Derived.Laws.NewBlocks
import Derived.Laws.MakeOwn
import Derived.OwnWalk
import Derived.Deep.QuietTactic
import Derived.Laws.CopyOwn
import Derived.Maps.AppendAt
import Derived.Maps.OwnOps
import Derived.Maps.OwnSet
import Derived.MapKept
import Derived.BigQuiet
import Derived.WalkSpells
import Derived.StillTailTactics
import Derived.Outline
import Derived.LoopTactic
import Derived.Deep.Cut
import Derived.WalkMore
import Derived.ScopeJumps
set_option linter.unusedVariables false
namespace Go.Proofs.Ytddcjmdcpkmnjab.Gn
open Go.RowKit
theorem heap_alloc_new (w : World) (o : Obj) : (w.alloc o).heap[w.heap.size]? = some o := by
  show (w.heap.push o)[w.heap.size]? = some o
  exact Array.getElem?_push_size
theorem size_alloc (w : World) (o : Obj) : (w.alloc o).heap.size = w.heap.size + 1 := by
  show (w.heap.push o).size = _
  exact Array.size_push _
/-- No block that was there has turned but those of S. -/
structure Chg (S : List Nat) (w w' : World) : Prop where
  os : w'.os = w.os
  tape : w'.tape = w.tape
  output : w'.output = w.output
  size : w.heap.size ≤ w'.heap.size
  block : ∀ k, k < w.heap.size → k ∉ S → w'.heap[k]? = w.heap[k]?
theorem Chg.refl (S : List Nat) (w : World) : Chg S w w := ⟨rfl, rfl, rfl, Nat.le_refl _, fun _ _ _ => rfl⟩
theorem Chg.trans {S : List Nat} {x y z : World} (h : Chg S x y) (k : Chg S y z) : Chg S x z :=
  ⟨k.os.trans h.os, k.tape.trans h.tape, k.output.trans h.output, Nat.le_trans h.size k.size, fun i hi hs => (k.block i (Nat.lt_of_lt_of_le hi h.size) hs).trans (h.block i hi hs)⟩
theorem Chg.mono {S T : List Nat} {x y : World} (h : Chg S x y) (hs : ∀ k ∈ S, k ∈ T) : Chg T x y := ⟨h.os, h.tape, h.output, h.size, fun i hi ht => h.block i hi (fun g => ht (hs i g))⟩
/-- What has turned lies above. -/
theorem Chg.above {S T : List Nat} {x y z : World} (h : Chg T x y) (k : Chg S y z) (hs : ∀ i ∈ S, i ∈ T ∨ x.heap.size ≤ i) : Chg T x z :=
  ⟨k.os.trans h.os, k.tape.trans h.tape, k.output.trans h.output, Nat.le_trans h.size k.size, fun i hi ht =>
    (k.block i (Nat.lt_of_lt_of_le hi h.size) (fun g => by rcases hs i g with g2 | g2; exact ht g2; omega)).trans (h.block i hi ht)⟩
theorem Chg.drew {S : List Nat} {x y : World} (h : Chg S x y) : Chg S x y.drew := ⟨h.os, h.tape, h.output, h.size, h.block⟩
theorem Chg.drewN {S : List Nat} {x y : World} (h : Chg S x y) (k : Nat) : Chg S x (y.drewN k) := ⟨h.os, h.tape, h.output, h.size, h.block⟩
theorem Chg.setCell {S : List Nat} {x y : World} (h : Chg S x y) {a : Addr} (e : a.block ∈ S ∨ x.heap.size ≤ a.block) (u : Value) : Chg S x (y.setCell a u) :=
  ⟨h.os, h.tape, h.output, by have := h.size; simpa [World.setCell] using this, fun k hk hs => (Below.heap_setCell y a u k (fun g => by subst g; rcases e with e | e; exact hs e; omega)).trans (h.block k hk hs)⟩
theorem Chg.alloc {S : List Nat} {x y : World} (h : Chg S x y) (o : Obj) : Chg S x (y.alloc o) :=
  ⟨h.os, h.tape, h.output, by rw [size_alloc]; have := h.size; omega, fun k hk hs => (Below.heap_alloc y o k (Nat.lt_of_lt_of_le hk h.size)).trans (h.block k hk hs)⟩
theorem Chg.below {x y : World} (h : Below x.heap.size x y) : Chg [] x y := ⟨h.os, h.tape, h.output, h.size, fun k hk _ => h.block k hk⟩
theorem Chg.toBelow {S : List Nat} {B : Nat} {x y : World} (h : Chg S x y) (hB : B ≤ x.heap.size) (hs : ∀ k ∈ S, B ≤ k) : Below B x y := ⟨h.os, h.tape, h.output, h.size, fun k hk => h.block k (by omega) (fun g => by have := hs k g; omega)⟩
/-- A block that holds one value: a variable. -/
def Var (w : World) (v : Nat) (t : TypeId) (x : Value) : Prop := w.heap[v]? = some (.cells #[x] t (0, 0))
theorem Var.lt {w : World} {v : Nat} {t : TypeId} {x : Value} (h : Var w v t x) : v < w.heap.size := (Array.getElem?_eq_some_iff.1 h).1
theorem Var.cell {w : World} {v : Nat} {t : TypeId} {x : Value} (h : Var w v t x) : w.cell? ⟨v, 0, none⟩ = some x := by
  unfold Var at h; simp [World.cell?, h]
theorem Var.frozen {w : World} {v : Nat} {t : TypeId} {x : Value} (h : Var w v t x) (o : Nat) (s : Option Nat) : w.frozen? ⟨v, o, s⟩ = false := by
  unfold Var at h; simp [World.frozen?, h]
theorem heap_put (w : World) (a : Addr) (c : Array Value) (T : TypeId) (f : Nat × Nat) (x : Value) (h : w.heap[a.block]? = some (.cells c T f)) (hs : a.spot = none) : (w.setCell a x).heap[a.block]? = some (.cells (c.setIfInBounds a.off x) T f) := by
  have hlt := (Array.getElem?_eq_some_iff.1 h).1
  have h2 := (Array.getElem?_eq_some_iff.1 h).2
  show (w.heap.modify a.block _)[a.block]? = _
  rw [Array.getElem?_eq_getElem (by simpa using hlt), Array.getElem_modify_self, h2]
  simp [hs]
theorem Var.set {w : World} {v : Nat} {t : TypeId} {x : Value} (h : Var w v t x) (y : Value) : Var (w.setCell ⟨v, 0, none⟩ y) v t y := by
  have := heap_put w ⟨v, 0, none⟩ _ _ _ y h rfl
  unfold Var
  rw [this]
  rfl
theorem Var.setOther {w : World} {v : Nat} {t : TypeId} {x : Value} (h : Var w v t x) {a : Addr} (ha : v ≠ a.block) (y : Value) : Var (w.setCell a y) v t x := (Below.heap_setCell w a y v ha).trans h
theorem Var.alloc {w : World} {v : Nat} {t : TypeId} {x : Value} (h : Var w v t x) (o : Obj) : Var (w.alloc o) v t x := (Below.heap_alloc w o v h.lt).trans h
theorem Var.drewN {w : World} {v : Nat} {t : TypeId} {x : Value} (h : Var w v t x) (k : Nat) : Var (w.drewN k) v t x := h
theorem Var.drew {w : World} {v : Nat} {t : TypeId} {x : Value} (h : Var w v t x) : Var w.drew v t x := h
theorem Var.chg {S : List Nat} {w w' : World} {v : Nat} {t : TypeId} {x : Value} (h : Var w v t x) (hc : Chg S w w') (hs : v ∉ S) : Var w' v t x := (hc.block v h.lt hs).trans h
theorem size_setCell (w : World) (a : Addr) (x : Value) : (w.setCell a x).heap.size = w.heap.size := by simp [World.setCell]
/-- 'make([]T, n, m)'. -/
theorem wpList_make {P : Program} {w : World} {ops : Array Oper} {rest : List Oper} {o : Oper} {a : Act} {Q : Exit → Act → World → Prop} (hg : o.guard = none) (l c : Operand) (t : TypeId) (hop : o.op = Op.makeSlice t l c)
    (e : TypeId) (z : Value) (size bytes : Nat) (h1 : P.underlying t = some (.slice e)) (h2 : (P.info? e).map (fun i => (i.zero, i.size, i.bytes)) = some (some z, size, bytes))
    (kl kc : IntKind) (L C : Int) (hl : a.eval l = .int kl L) (hc : a.eval c = .int kc C) (h0 : 0 ≤ L) (hLC : L ≤ C) (hb : (bytes : Int) * C ≤ 281474976710656) (hC : C ≤ 9223372036854775807)
    (hK : ∀ w2, w2 = w.alloc (.cells (madeCells z.cells (C.toNat * size)) e) → wpList P ops Q rest (a.put o.dst (.slice (some ⟨w.heap.size, 0, none⟩) L.toNat C.toNat)) w2) :
    wpList P ops Q (o :: rest) a w := by
  refine wpList_plain hg fun K hK' => ?_
  obtain ⟨i, hi, hzz⟩ := Option.map_eq_some_iff.1 h2
  simp only [Prod.mk.injEq] at hzz
  obtain ⟨z1, z2, z3⟩ := hzz
  have hr := run_make (P := P) w t e i z h1 hi z1 kl kc L C h0 hLC (by rw [z3]; exact hb) hC
  rw [z2] at hr
  unfold Oper.wp
  simp [execOp, hop, hl, hc, hr, Result.andThen]
  exact hK' _ _ (hK _ rfl)
/-- 'copy' of elements of several cells over a whole row. -/
theorem run_copy_size {P : Program} (w : World) (dT sT ty elem : TypeId) (g dLen dCap : Nat) (a : Addr) (sLen sCap : Nat) (cur : Array Value) (t : TypeId) (cs : List Value) (s : Nat)
    (hu : P.underlying dT = some (.slice elem)) (hs : (P.info? elem).map (·.size) = some s)
    (hg : w.heap[g]? = some (.cells cur t (0, 0))) (hn : cs.length = Nat.min sLen dLen * s)
    (hsrc : ∀ j v, cs[j]? = some v → w.cell? (a.add j) = some v) (hfit : cs.length = cur.size) (h1 : ∀ v ∈ cs, v.oneCell' = true) :
    (Builtin.copy_ #[dT, sT] ty #[.slice (some ⟨g, 0, none⟩) dLen dCap, .slice (some a) sLen sCap]).run P w =
      .ok (goInt (Nat.min sLen dLen)) (w.setRow g cs.toArray) := by
  have hl := run_loadCells_list (P := P) w a cs hsrc
  have hst := run_storeCells_at P g 0 t cs 0 cur w hg (by simp; omega) h1
  rw [hfit] at hst
  simp only [Nat.zero_add, Nat.add_zero, List.take_zero, List.nil_append] at hst
  rw [List.drop_of_length_le (by simp), List.append_nil] at hst
  rw [hn] at hl
  cases hq : P.info? elem with
  | none => simp [hq] at hs
  | some i =>
    have hi : i.size = s := by simpa [hq] using hs
    simp [Builtin.copy_, run_underlying hu, Builtin.lenOf, Builtin.firstCells, sizeOf, typeInfo, hq, hi, hl, hst]
theorem wpList_copy_size {P : Program} {w : World} {ops : Array Oper} {rest : List Oper} {o : Oper} {a : Act} {Q : Exit → Act → World → Prop} (hgd : o.guard = none) (d s : Operand) (dT sT : TypeId)
    (ho : o.op = .call { callee := .builtin .copy, args := #[d, s], argTypes := #[dT, sT] }) (elem : TypeId) (z : Nat) (hu : P.underlying dT = some (.slice elem)) (hsz : (P.info? elem).map (·.size) = some z)
    (g dLen dCap : Nat) (ad : Addr) (sLen sCap : Nat) (hd : a.eval d = .slice (some ⟨g, 0, none⟩) dLen dCap) (hs : a.eval s = .slice (some ad) sLen sCap)
    (cur : Array Value) (t : TypeId) (hg : w.heap[g]? = some (.cells cur t (0, 0))) (cs : List Value) (hn : cs.length = Nat.min sLen dLen * z)
    (hsrc : ∀ j v, cs[j]? = some v → w.cell? (ad.add j) = some v) (hfit : cs.length = cur.size) (h1 : ∀ v ∈ cs, v.oneCell' = true)
    (h : ∀ w2, w2 = w.setRow g cs.toArray → wpList P ops Q rest (a.put o.dst (goInt (Nat.min sLen dLen))) w2) : wpList P ops Q (o :: rest) a w := by
  refine wpList_plain hgd fun K hK => ?_
  have hrun := run_copy_size (P := P) w dT sT o.type elem g dLen dCap ad sLen sCap cur t cs z hu hsz hg hn hsrc hfit h1
  unfold Oper.wp
  simp [execOp, ho, resolve, invoke, builtin, hd, hs, hrun, Result.andThen]
  exact hK _ _ (h _ rfl)
theorem Chg.setRow {S : List Nat} {x y : World} (h : Chg S x y) {g : Nat} (e : g ∈ S ∨ x.heap.size ≤ g) (cs : Array Value) : Chg S x (y.setRow g cs) :=
  ⟨h.os, h.tape, h.output, by have := h.size; simpa [World.setRow] using this, fun k hk hs => (setRow_other y g k cs (fun q => by subst q; rcases e with e | e; exact hs e; omega)).trans (h.block k hk hs)⟩
end Go.Proofs.Ytddcjmdcpkmnjab.Gn
namespace Go.Proofs.Ytddcjmdcpkmnjab.Gn
open Go.RowKit Go.Instr
/-- The slice v (nil, or at the head of a block of its own) holds xs. -/
def ORow (w : World) (e : Nat) (v : Value) (xs : List Value) : Prop := w.ownsRow 0 e 1 v xs.length xs
theorem ORow.nil (w : World) (e : Nat) : ORow w e (.slice none 0 0) [] := ⟨rfl, .inl ⟨rfl, rfl⟩⟩
theorem ORow.parts {w : World} {e : Nat} {v : Value} {xs : List Value} (h : ORow w e v xs) : (v = .slice none 0 0 ∧ xs = []) ∨
    ∃ g cap cur, v = .slice (some ⟨g, 0, none⟩) xs.length cap ∧ w.heap[g]? = some (.cells cur e (0, 0)) ∧ xs.length ≤ cap ∧ cap ≤ maxLen ∧ cur.size = cap ∧ cur.toList.take xs.length = xs := by
  obtain ⟨_, ⟨h1, h2⟩ | ⟨g, cap, cur, h1, _, h2, h3, h4, h5, h6⟩⟩ := h
  · exact .inl ⟨h1, List.eq_nil_of_length_eq_zero h2⟩
  · exact .inr ⟨g, cap, cur, h1, h2, h3, h4, by simpa using h5, by simpa using h6⟩
theorem ORow.of {w : World} {e g cap : Nat} {cur : Array Value} {xs : List Value} (h2 : w.heap[g]? = some (.cells cur e (0, 0))) (h3 : xs.length ≤ cap) (h4 : cap ≤ maxLen) (h5 : cur.size = cap) (h6 : cur.toList.take xs.length = xs) : ORow w e (.slice (some ⟨g, 0, none⟩) xs.length cap) xs :=
  ⟨by simp, .inr ⟨g, cap, cur, rfl, Nat.zero_le _, h2, h3, h4, by simpa using h5, by simpa using h6⟩⟩
theorem ORow.chg {S : List Nat} {w w' : World} {e : Nat} {v : Value} {xs : List Value} (h : ORow w e v xs) (hc : Chg S w w') (hs : ∀ g, v.ownBlock = some g → g ∉ S) : ORow w' e v xs := by
  rcases h.parts with ⟨rfl, rfl⟩ | ⟨g, cap, cur, rfl, h2, h3, h4, h5, h6⟩
  · exact ORow.nil _ _
  · exact ORow.of ((hc.block g (Array.getElem?_eq_some_iff.1 h2).1 (hs g rfl)).trans h2) h3 h4 h5 h6
theorem ORow.block {w : World} {e : Nat} {v : Value} {xs : List Value} (h : ORow w e v xs) {g : Nat} (hg : v.ownBlock = some g) : g < w.heap.size ∧ ∃ cur, w.heap[g]? = some (.cells cur e (0, 0)) := by
  rcases h.parts with ⟨rfl, rfl⟩ | ⟨g2, cap, cur, rfl, h2, h3, h4, h5, h6⟩
  · cases hg
  · injection hg with hg
    dsimp only at hg
    subst hg
    exact ⟨(Array.getElem?_eq_some_iff.1 h2).1, cur, h2⟩
theorem ORow.slice {w : World} {e : Nat} {v : Value} {xs : List Value} (h : ORow w e v xs) : ∃ A cap, v = .slice A xs.length cap ∧ xs.length ≤ cap ∧ (xs ≠ [] → ∃ g, A = some ⟨g, 0, none⟩) ∧ (A = none → xs = [] ∧ cap = 0) := by
  rcases h.parts with ⟨rfl, rfl⟩ | ⟨g2, cap, cur, rfl, h2, h3, h4, h5, h6⟩
  · exact ⟨none, 0, rfl, Nat.le_refl _, fun h => absurd rfl h, fun _ => ⟨rfl, rfl⟩⟩
  · exact ⟨_, cap, rfl, h3, fun _ => ⟨g2, rfl⟩, fun h => by cases h⟩
theorem ORow.cell {w : World} {e g n cap : Nat} {xs : List Value} (h : ORow w e (.slice (some ⟨g, 0, none⟩) n cap) xs) (i : Nat) (hi : i < xs.length) : w.cell? ⟨g, i, none⟩ = some xs[i] := by
  rcases h.parts with ⟨h1, rfl⟩ | ⟨g2, cap, cur, h1, h2, h3, h4, h5, h6⟩
  · cases h1
  · injection h1 with h1 _ _
    injection h1 with h1
    injection h1 with h1
    subst h1
    have h7 : cur[i]? = some xs[i] := by
      have : (cur.toList.take xs.length)[i]? = some xs[i] := by rw [h6]; exact List.getElem?_eq_getElem hi
      rw [List.getElem?_take, if_pos hi] at this
      simpa using this
    simp [World.cell?, h2, h7]
theorem grownBy_chg {w w' : World} {row : Option Nat} (h : w.grownBy w' row) : Chg row.toList w w' :=
  ⟨h.os, h.tape, h.output, h.size, fun k hk hs => h.block k hk (fun e => hs (by rw [← e]; simp))⟩
/-- 'append(s, y)' where s is a row of its own. -/
theorem wpList_append1 {P : Program} {w : World} {ops : Array Oper} {rest : List Oper} {o : Oper} {a : Act} {Q : Exit → Act → World → Prop} (hgd : o.guard = none) (s x : Operand) (t : TypeId)
    (ho : o.op = .call { callee := .builtin .append, args := #[s, x], argTypes := #[t, t] })
    (e : TypeId) (z : Value) (bytes : Nat) (ht : P.underlying t = some (.slice e)) (hi : (P.info? e).map (fun i => (i.zero, i.size, i.bytes)) = some (some z, 1, bytes)) (hzs : z.cells.size = 1)
    (v : Value) (xs : List Value) (hs : a.eval s = v) (hown : ORow w e v xs)
    (g : Nat) (y : Value) (hx : a.eval x = .slice (some ⟨g, 0, none⟩) 1 1) (hy : w.cell? ⟨g, 0, none⟩ = some y) (h1 : y.oneCell' = true)
    (hl : (xs.length + 1) * bytes ≤ 140737488355328) (hl2 : xs.length < maxLen)
    (h : ∀ v' w', ORow w' e v' (xs ++ [y]) → Chg v.ownBlock.toList w w' → (v'.ownBlock = v.ownBlock ∨ v'.ownBlock = some w.heap.size) → wpList P ops Q rest (a.put o.dst v') w') :
    wpList P ops Q (o :: rest) a w := by
  obtain ⟨i, hi1, hi2, hi3, hi4⟩ := info_parts hi
  refine wpList_append_own_at w hgd s x t ho 0 e i z 1 bytes ht hi1 hi2 hi3 hi4 hzs (by omega) v xs.length xs hs hown ⟨g, 0, none⟩ 1 1 [y] hx rfl (fun j u hj => ?_) (fun u hu => ?_) (by unfold maxLen at *; omega) hl (Nat.zero_le _) ?_
  · have : j = 0 := by
      rcases j with _ | j
      · rfl
      · simp at hj
    subst this
    have : u = y := by simpa using hj.symm
    rw [this]
    exact hy
  · rw [List.mem_singleton.1 hu]; exact h1
  · intro v' w' h2 h3 _ h5
    exact h v' w' (by unfold ORow; simpa using h2) (grownBy_chg h3) h5

/-- What is asked of a kind of keys. -/
structure KeyOk {α : Type} (P : Program) (kt : TypeId) (enc : α → Value) [DecidableEq α] : Prop where
  same : ∃ d, P.underlying kt = some d ∧ ∀ a b, sameNow d (enc a) (enc b) = some (decide (a = b))
  check : ∀ e a w, (checkKey e 10000 kt (enc a)).run P w = .ok () w
  bits : ∀ a, sameBits 10000 (enc a) (enc a) = true
section
variable {α : Type}
def kv (e : MapEntry) : Value × Value := (e.key, e.val)
/-- Block r is a map with these keys and values. -/
def MapAt (w : World) (r : Nat) (enc : α → Value) (S : List (α × Value)) : Prop :=
  ∃ es c, w.heap[r]? = some (.map es c) ∧ es.toList.map kv = S.map (fun p => (enc p.1, p.2))
theorem MapAt.lt {w : World} {r : Nat} {enc : α → Value} {S : List (α × Value)} (h : MapAt w r enc S) : r < w.heap.size := by
  obtain ⟨es, c, h, _⟩ := h
  exact (Array.getElem?_eq_some_iff.1 h).1
theorem MapAt.chg {T : List Nat} {w w' : World} {r : Nat} {enc : α → Value} {S : List (α × Value)} (h : MapAt w r enc S) (hc : Chg T w w') (hs : r ∉ T) : MapAt w' r enc S := by
  obtain ⟨es, c, h1, h2⟩ := h
  exact ⟨es, c, (hc.block r (Array.getElem?_eq_some_iff.1 h1).1 hs).trans h1, h2⟩
theorem MapAt.new (w : World) (enc : α → Value) : MapAt (w.alloc (.map #[] 0)) w.heap.size enc [] := ⟨#[], 0, heap_alloc_new _ _, rfl⟩
variable [DecidableEq α]
def getL (S : List (α × Value)) (k : α) : Option Value := (S.find? (fun p => p.1 = k)).map (·.2)
def putL : List (α × Value) → α → Value → List (α × Value)
  | [], k, v => [(k, v)]
  | p :: S, k, v => if p.1 = k then (k, v) :: S else p :: putL S k v
theorem getL_putL (S : List (α × Value)) (k k' : α) (v : Value) : getL (putL S k v) k' = if k' = k then some v else getL S k' := by
  induction S with
  | nil =>
    unfold putL getL
    by_cases e : k' = k
    · subst e; simp
    · rw [if_neg e]
      have : ¬ k = k' := fun g => e g.symm
      simp [this]
  | cons p S ih =>
    unfold putL
    by_cases e : p.1 = k
    · rw [if_pos e]
      by_cases e2 : k' = k
      · subst e2; simp [getL]
      · rw [if_neg e2]
        have h1 : ¬ k = k' := fun g => e2 g.symm
        have h2 : ¬ p.1 = k' := fun g => e2 (by rw [← g, e])
        simp [getL, h1, h2]
    · rw [if_neg e]
      by_cases e2 : p.1 = k'
      · have h1 : ¬ k' = k := fun g => e (by rw [e2, g])
        rw [if_neg h1]
        simp [getL, e2]
      · have h3 : getL (p :: putL S k v) k' = getL (putL S k v) k' := by simp [getL, e2]
        have h4 : getL (p :: S) k' = getL S k' := by simp [getL, e2]
        rw [h3, h4, ih]
theorem find_spec {P : Program} {kt : TypeId} {enc : α → Value} {d : TypeDesc} (hd : ∀ a b, sameNow d (enc a) (enc b) = some (decide (a = b))) (k : α) (v : Value) :
    ∀ (es : List MapEntry) (S : List (α × Value)) (i0 : Nat), es.map kv = S.map (fun p => (enc p.1, p.2)) →
      ∃ r, findNow d (enc k) es i0 = some r ∧
        (match r with
          | none => getL S k = none ∧ ∀ b, (es ++ [({ key := enc k, val := v, born := b } : MapEntry)]).map kv = (putL S k v).map (fun p => (enc p.1, p.2))
          | some (i, x) => i0 ≤ i ∧ getL S k = some x ∧ (∃ e, es[i - i0]? = some e ∧ e.key = enc k) ∧ (es.modify (i - i0) (fun e : MapEntry => { e with key := enc k, val := v })).map kv = (putL S k v).map (fun p => (enc p.1, p.2))) := by
  intro es
  induction es with
  | nil =>
    intro S i0 h
    have : S = [] := by simpa using h.symm
    subst this
    exact ⟨none, rfl, rfl, fun b => rfl⟩
  | cons e es ih =>
    intro S i0 h
    cases S with
    | nil => cases h
    | cons p S =>
      simp only [List.map_cons, List.cons.injEq, kv, Prod.mk.injEq] at h
      obtain ⟨⟨h1, h2⟩, h3⟩ := h
      unfold findNow
      rw [h1, hd]
      by_cases e1 : k = p.1
      · rw [decide_eq_true e1]
        refine ⟨some (i0, e.val), rfl, Nat.le_refl _, ?_, ⟨e, by simp, by rw [h1, e1]⟩, ?_⟩
        · simp [getL, e1, h2]
        · simp [putL, e1, List.modify, h3, kv]
      · rw [decide_eq_false e1]
        obtain ⟨r, r1, r2⟩ := ih S (i0 + 1) h3
        refine ⟨r, r1, ?_⟩
        have e2 : ¬ p.1 = k := fun g => e1 g.symm
        have hg : getL (p :: S) k = getL S k := by simp [getL, e2]
        have hp : putL (p :: S) k v = p :: putL S k v := by simp only [putL]; rw [if_neg e2]
        rw [hg, hp]
        cases r with
        | none => exact ⟨r2.1, fun b => by have := r2.2 b; rw [List.cons_append, List.map_cons, List.map_cons, this]; unfold kv; rw [h1, h2]⟩
        | some q =>
          obtain ⟨i, x⟩ := q
          obtain ⟨a1, a2, ⟨e3, a3, a4⟩, a5⟩ := r2
          have ei : i - i0 = (i - (i0 + 1)) + 1 := by omega
          refine ⟨by omega, a2, ⟨e3, by rw [ei]; simpa using a3, a4⟩, ?_⟩
          rw [ei]
          rw [List.modify_succ_cons, List.map_cons, List.map_cons, a5]
          unfold kv; rw [h1, h2]
theorem run_lookup {P : Program} {w : World} {r : Nat} {enc : α → Value} {S : List (α × Value)} (h : MapAt w r enc S) {t kt et : TypeId} (K : KeyOk P kt enc) (ht : P.underlying t = some (.map kt et)) (k : α) (ok : Bool) (z : Value) (hz : (zeroValue et).run P w = .ok z w) :
    (lookup t (.map (some r)) (enc k) ok).run P w = .ok (if ok then .tuple #[(getL S k).getD z, .bool (getL S k).isSome] else (getL S k).getD z) w := by
  obtain ⟨es, c, h1, h2⟩ := h
  obtain ⟨d, hd1, hd2⟩ := K.same
  obtain ⟨f, f1, f2⟩ := find_spec (P := P) (kt := kt) hd2 k z es.toList S 0 h2
  have hgo : (getObj r).run P w = .ok (.map es c) w := by simp [getObj, Sem.run, h1]
  cases f with
  | none =>
    have hn := f2.1
    simp [lookup, run_underlying ht, hgo, K.check, findKey, run_underlying hd1, f1, hz, hn]
  | some q =>
    obtain ⟨i, x⟩ := q
    have hn := f2.2.1
    simp [lookup, run_underlying ht, hgo, K.check, findKey, run_underlying hd1, f1, hn]
theorem run_mapUpdate {P : Program} {w : World} {r : Nat} {enc : α → Value} {S : List (α × Value)} (h : MapAt w r enc S) {t kt et : TypeId} (K : KeyOk P kt enc) (ht : P.underlying t = some (.map kt et)) (k : α) (v : Value) :
    ∃ w', (mapUpdate t (.map (some r)) (enc k) v).run P w = .ok () w' ∧ MapAt w' r enc (putL S k v) ∧ Chg [r] w w' ∧ w'.heap.size = w.heap.size := by
  obtain ⟨es, c, h1, h2⟩ := h
  obtain ⟨d, hd1, hd2⟩ := K.same
  obtain ⟨f, f1, f2⟩ := find_spec (P := P) (kt := kt) hd2 k v es.toList S 0 h2
  have hlt := (Array.getElem?_eq_some_iff.1 h1).1
  have hgo : (getObj r).run P w = .ok (.map es c) w := by simp [getObj, Sem.run, h1]
  have hset : ∀ o, (setObj r o).run P w = .ok () { w with heap := w.heap.setIfInBounds r o } := fun o => by simp [setObj, Sem.run, h1]
  have hchg : ∀ o, Chg [r] w { w with heap := w.heap.setIfInBounds r o } := fun o => ⟨rfl, rfl, rfl, by simp, fun j hj hs => by
    have : r ≠ j := fun g => hs (by simp [g])
    simp [this]⟩
  cases f with
  | none =>
    refine ⟨{ w with heap := w.heap.setIfInBounds r (.map (es.push { key := enc k, val := v, born := c }) (c + 1)) }, ?_, ⟨es.push { key := enc k, val := v, born := c }, c + 1, by simp [hlt], ?_⟩, hchg _, by simp⟩
    · simp [mapUpdate, run_underlying ht, hgo, K.check, findKey, run_underlying hd1, f1, hset]
    · rw [Array.toList_push]
      exact f2.2 c
  | some q =>
    obtain ⟨i, x⟩ := q
    obtain ⟨a1, a2, ⟨e3, a3, a4⟩, a5⟩ := f2
    simp only [Nat.sub_zero] at a3 a5
    have hk : (((es[i]?).map (·.key)).getD (enc k)) = enc k := by
      rw [← Array.getElem?_toList, a3]
      simpa using a4
    have hst : (keyThatStays (enc k) (enc k)).run P w = .ok (enc k) w := by
      unfold keyThatStays
      rw [if_pos (K.bits k)]
      rfl
    refine ⟨{ w with heap := w.heap.setIfInBounds r (.map (es.modify i (fun e : MapEntry => { e with key := enc k, val := v })) c) }, ?_, ⟨_, c, by simp [hlt]; rfl, ?_⟩, hchg _, by simp⟩
    · simp [mapUpdate, run_underlying ht, hgo, K.check, findKey, run_underlying hd1, f1, hk, hst, hset]
    · simpa using a5
theorem wpList_lookup {P : Program} {w : World} {ops : Array Oper} {rest : List Oper} {o : Oper} {a : Act} {Q : Exit → Act → World → Prop} (hgd : o.guard = none) (m x : Operand) (t : TypeId) (ok : Bool) (ho : o.op = .lookup t m x ok)
    {r : Nat} {enc : α → Value} {S : List (α × Value)} (hm : a.eval m = .map (some r)) (k : α) (hx : a.eval x = enc k) (h : MapAt w r enc S) {kt et : TypeId} (K : KeyOk P kt enc) (ht : P.underlying t = some (.map kt et)) (z : Value) (hz : ∀ w, (zeroValue et).run P w = .ok z w)
    (hK : wpList P ops Q rest (a.put o.dst (if ok then .tuple #[(getL S k).getD z, .bool (getL S k).isSome] else (getL S k).getD z)) w) :
    wpList P ops Q (o :: rest) a w := by
  refine wpList_plain hgd fun K' hK' => ?_
  have hr := run_lookup h K ht k ok z (hz w)
  unfold Oper.wp
  simp [execOp, ho, hm, hx, hr, Result.andThen]
  exact hK' _ _ hK
theorem wpList_mapUpdate {P : Program} {w : World} {ops : Array Oper} {rest : List Oper} {o : Oper} {a : Act} {Q : Exit → Act → World → Prop} (hgd : o.guard = none) (m x y : Operand) (t : TypeId) (ho : o.op = .mapUpdate t m x y)
    {r : Nat} {enc : α → Value} {S : List (α × Value)} (hm : a.eval m = .map (some r)) (k : α) (hx : a.eval x = enc k) (v : Value) (hy : a.eval y = v) (h : MapAt w r enc S) {kt et : TypeId} (K : KeyOk P kt enc) (ht : P.underlying t = some (.map kt et))
    (hK : ∀ w', MapAt w' r enc (putL S k v) → Chg [r] w w' → w'.heap.size = w.heap.size → wpList P ops Q rest (a.put o.dst undef) w') :
    wpList P ops Q (o :: rest) a w := by
  refine wpList_plain hgd fun K' hK' => ?_
  obtain ⟨w', hr, h1, h2, h3⟩ := run_mapUpdate h K ht k v
  unfold Oper.wp
  simp [execOp, ho, hm, hx, hy, hr, Result.andThen]
  exact hK' _ _ (hK w' h1 h2 h3)
end
theorem check_int {P : Program} {kt : TypeId} {kk : IntKind} (h : P.underlying kt = some (.int kk)) (e : Bool) (n : Nat) (a : Value) (w : World) : (checkKey e (n + 1) kt a).run P w = .ok () w := by
  simp [checkKey, run_underlying h]
theorem check_str {P : Program} {kt : TypeId} (h : P.underlying kt = some .string) (e : Bool) (n : Nat) (a : Value) (w : World) : (checkKey e (n + 1) kt a).run P w = .ok () w := by
  simp [checkKey, run_underlying h]
theorem bits_int (n : Nat) (kk : IntKind) (a : Int) : sameBits n (.int kk a) (.int kk a) = true := by cases n <;> simp [sameBits]
theorem beq_bytes (a b : ByteArray) : (a == b) = decide (a = b) := by
  rw [Bool.eq_iff_iff, Go.MapKept.bytes_beq, decide_eq_true_iff]
theorem bits_str (n : Nat) (a : ByteArray) : sameBits n (.string a) (.string a) = true := by cases n <;> simp [sameBits, beq_bytes]
theorem keyInt {P : Program} {kt : TypeId} {kk : IntKind} (h : P.underlying kt = some (.int kk)) : KeyOk P kt (fun n : Int => Value.int kk n) := by
  refine ⟨⟨_, h, fun a b => ?_⟩, fun e a w => check_int h e 9999 _ w, fun a => bits_int _ _ _⟩
  simp only [sameNow, if_true]
  by_cases e : a = b
  · subst e; simp
  · simp [e]
theorem keyStr {P : Program} {kt : TypeId} (h : P.underlying kt = some .string) : KeyOk P kt (fun s : ByteArray => Value.string s) := by
  refine ⟨⟨_, h, fun a b => ?_⟩, fun e a w => check_str h e 9999 _ w, fun a => bits_str _ _⟩
  simp only [sameNow, beq_bytes]
end Go.Proofs.Ytddcjmdcpkmnjab.Gn
namespace Go.Proofs.Ytddcjmdcpkmnjab.Da
/-- A function with another value at one place. -/
def upd (f : Nat → Int) (i : Nat) (v : Int) : Nat → Int := fun j => if j = i then v else f j
theorem upd_same (f : Nat → Int) (i : Nat) (v : Int) : upd f i v i = v := if_pos rfl
theorem upd_other (f : Nat → Int) {i j : Nat} (v : Int) (h : j ≠ i) : upd f i v j = f j := if_neg h
def head (C : Nat → Int) (p : Nat) (nx : Int) : Nat → Int := if C 0 = -(p : Int) then upd C 0 nx else C
theorem head_pos (C : Nat → Int) (p : Nat) (nx : Int) {r : Nat} (h : 1 ≤ r) : head C p nx r = C r := by
  unfold head; split
  · exact upd_other _ _ (by omega)
  · rfl
/-- The free cells (those below nought at 'check') form a ring, rising but for its end; cell 0 tells the first one; each used cell's parent is used. -/
structure Inv (n : Nat) (B C : Nat → Int) : Prop where
  root : ∃ h : Nat, C 0 = -(h : Int) ∧ 1 ≤ h ∧ h < n ∧ C h < 0 ∧ ∀ r, 1 ≤ r → r < h → 0 ≤ C r
  next : ∀ p, 1 ≤ p → p < n → C p < 0 → ∃ q : Nat, C p = -(q : Int) ∧ 1 ≤ q ∧ q < n ∧ C q < 0 ∧ B q = -(p : Int) ∧ ((p < q ∧ ∀ r, p < r → r < q → 0 ≤ C r) ∨ (q ≤ p ∧ (∀ r, p < r → r < n → 0 ≤ C r) ∧ ∀ r, 1 ≤ r → r < q → 0 ≤ C r))
  prev : ∀ q, 1 ≤ q → q < n → C q < 0 → ∃ p : Nat, B q = -(p : Int) ∧ 1 ≤ p ∧ p < n ∧ C p < 0 ∧ C p = -(q : Int)
  par : ∀ r, 1 ≤ r → r < n → 0 ≤ C r → ∃ p : Nat, C r = (p : Int) ∧ p < n ∧ (p = 0 ∨ 0 ≤ C p)
/-- The free cell p is marked as a child of q. -/
theorem Inv.mark {n : Nat} {B C : Nat → Int} (h : Inv n B C) {p pr nx q : Nat} (hp1 : 1 ≤ p) (hp : p < n) (hf : C p < 0) (hnx : C p = -(nx : Int)) (hpr : B p = -(pr : Int)) (hne : nx ≠ pr) (hpp : pr ≠ p) (hpn : nx ≠ p) (hq : q < n) (hqu : q = 0 ∨ 0 ≤ C q) :
    Inv n (upd B nx (B p)) (upd (upd (head C p (C p)) pr (C p)) p q) := by
  obtain ⟨nx', e1, n1, n2, n3, n4, n5⟩ := h.next p hp1 hp hf
  obtain rfl : nx' = nx := by omega
  obtain ⟨pr', e2, m1, m2, m3, m4⟩ := h.prev p hp1 hp hf
  obtain rfl : pr' = pr := by omega
  have hC : ∀ r, 1 ≤ r → r ≠ p → r ≠ pr' → upd (upd (head C p (C p)) pr' (C p)) p q r = C r := fun r h1 h2 h3 => by
    rw [upd_other _ _ h2, upd_other _ _ h3, head_pos _ _ _ h1]
  have hCp : upd (upd (head C p (C p)) pr' (C p)) p q p = q := upd_same _ _ _
  have hCpr : upd (upd (head C p (C p)) pr' (C p)) p q pr' = C p := by rw [upd_other _ _ hpp, upd_same]
  have hpos : ∀ r, 1 ≤ r → 0 ≤ C r → 0 ≤ upd (upd (head C p (C p)) pr' (C p)) p q r := fun r h1 h2 => by
    by_cases e : r = p
    · subst e; omega
    · by_cases e3 : r = pr'
      · subst e3; omega
      · rw [hC r h1 e e3]; exact h2
  have hfree : ∀ r, 1 ≤ r → upd (upd (head C p (C p)) pr' (C p)) p q r < 0 → r ≠ p ∧ C r < 0 := fun r h1 h2 => by
    by_cases e : r = p
    · subst e; rw [hCp] at h2; omega
    · refine ⟨e, ?_⟩
      by_cases e3 : r = pr'
      · subst e3; exact m3
      · rw [hC r h1 e e3] at h2; exact h2
  have hfree2 : ∀ r, 1 ≤ r → r ≠ p → C r < 0 → upd (upd (head C p (C p)) pr' (C p)) p q r < 0 := fun r h1 h2 h3 => by
    by_cases e3 : r = pr'
    · subst e3; rw [hCpr]; exact hf
    · rw [hC r h1 h2 e3]; exact h3
  have hpq : 0 ≤ upd (upd (head C p (C p)) pr' (C p)) p q p := by rw [hCp]; omega
  refine ⟨?_, ?_, ?_, ?_⟩
  · obtain ⟨hd, r1, r2, r3, r4, r5⟩ := h.root
    have h0 : upd (upd (head C p (C p)) pr' (C p)) p q 0 = head C p (C p) 0 := by rw [upd_other _ _ (by omega), upd_other _ _ (by omega)]
    rw [h0]
    by_cases e : hd = p
    · subst e
      have hh : head C hd (C hd) 0 = C hd := by unfold head; rw [if_pos r1]; exact upd_same _ _ _
      rw [hh]
      refine ⟨nx', e1, n1, n2, hfree2 _ n1 hpn n3, fun r a b => ?_⟩
      rcases n5 with ⟨g1, g2⟩ | ⟨g1, g2, g3⟩
      · by_cases e4 : r = hd
        · subst e4; exact hpq
        · rcases Nat.lt_or_ge r hd with g | g
          · exact hpos r a (r5 r a g)
          · exact hpos r a (g2 r (by omega) b)
      · have := r5 nx' n1 (by omega); omega
    · have hh : head C p (C p) 0 = C 0 := by unfold head; rw [if_neg (by omega)]
      rw [hh]
      refine ⟨hd, r1, r2, r3, hfree2 _ r2 e r4, fun r a b => hpos r a (r5 r a b)⟩
  · intro r a b c
    obtain ⟨c1, c2⟩ := hfree r a c
    by_cases e : r = pr'
    · subst e
      rw [hCpr]
      refine ⟨nx', e1, n1, n2, hfree2 _ n1 hpn n3, by rw [upd_same]; exact e2, ?_⟩
      obtain ⟨p2, f1, f2, f3, f4, f5, f6⟩ := h.next r a b c2
      obtain rfl : p2 = p := by omega
      rcases f6 with ⟨g1, g2⟩ | ⟨g1, g2, g3⟩ <;> rcases n5 with ⟨k1, k2⟩ | ⟨k1, k2, k3⟩
      · refine .inl ⟨by omega, fun t t1 t2 => ?_⟩
        by_cases e5 : t = p2
        · subst e5; exact hpq
        · rcases Nat.lt_or_ge t p2 with g | g
          · exact hpos t (by omega) (g2 t t1 g)
          · exact hpos t (by omega) (k2 t (by omega) t2)
      · refine .inr ⟨?_, fun t t1 t2 => ?_, fun t t1 t2 => hpos t t1 (k3 t t1 t2)⟩
        · rcases Nat.lt_or_ge r nx' with g | g
          · have := g2 nx' g (by omega); omega
          · omega
        · by_cases e5 : t = p2
          · subst e5; exact hpq
          · rcases Nat.lt_or_ge t p2 with g | g
            · exact hpos t (by omega) (g2 t t1 g)
            · exact hpos t (by omega) (k2 t (by omega) t2)
      · refine .inr ⟨?_, fun t t1 t2 => hpos t (by omega) (g2 t t1 t2), fun t t1 t2 => ?_⟩
        · rcases Nat.lt_or_ge r nx' with g | g
          · have := g2 nx' g n2; omega
          · omega
        · by_cases e5 : t = p2
          · subst e5; exact hpq
          · rcases Nat.lt_or_ge t p2 with g | g
            · exact hpos t (by omega) (g3 t t1 g)
            · exact hpos t (by omega) (k2 t (by omega) t2)
      · have h1 := k2 r (by omega) b; omega
    · rw [hC r a c1 e]
      obtain ⟨t, f1, f2, f3, f4, f5, f6⟩ := h.next r a b c2
      have tp : t ≠ p := fun g => by subst g; omega
      have tn : t ≠ nx' := fun g => by subst g; omega
      refine ⟨t, f1, f2, f3, hfree2 t f2 tp f4, by rw [upd_other _ _ tn]; exact f5, ?_⟩
      rcases f6 with ⟨g1, g2⟩ | ⟨g1, g2, g3⟩
      · exact .inl ⟨g1, fun x x1 x2 => hpos x (by omega) (g2 x x1 x2)⟩
      · exact .inr ⟨g1, fun x x1 x2 => hpos x (by omega) (g2 x x1 x2), fun x x1 x2 => hpos x x1 (g3 x x1 x2)⟩
  · intro r a b c
    obtain ⟨c1, c2⟩ := hfree r a c
    by_cases e : r = nx'
    · subst e
      refine ⟨pr', by rw [upd_same]; exact e2, m1, m2, ?_, ?_⟩
      · rw [hCpr]; exact hf
      · rw [hCpr]; exact e1
    · obtain ⟨t, f1, f2, f3, f4, f5⟩ := h.prev r a b c2
      have tp : t ≠ p := fun g => by subst g; omega
      have tn : t ≠ pr' := fun g => by subst g; omega
      exact ⟨t, by rw [upd_other _ _ e]; exact f1, f2, f3, hfree2 t f2 tp f4, by rw [hC t f2 tp tn]; exact f5⟩
  · intro r a b c
    by_cases e : r = p
    · subst e
      rw [hCp]
      refine ⟨q, rfl, hq, ?_⟩
      rcases hqu with g | g
      · exact .inl g
      · by_cases g0 : q = 0
        · exact .inl g0
        · exact .inr (hpos q (by omega) g)
    · by_cases e2 : r = pr'
      · subst e2; rw [hCpr] at c; omega
      · rw [hC r a e e2] at c ⊢
        obtain ⟨t, t1, t2, t3⟩ := h.par r a b c
        refine ⟨t, t1, t2, ?_⟩
        by_cases g0 : t = 0
        · exact .inl g0
        · exact t3.imp id fun g => hpos t (by omega) g
/-- A short list leaves out one of many numbers. -/
theorem leaves_out : ∀ (X : Nat) (L : List Nat), L.length < X → ∃ f, 1 ≤ f ∧ f ≤ X ∧ f ∉ L := by
  intro X
  induction X with
  | zero => intro L h; omega
  | succ X ih =>
    intro L h
    by_cases hm : X + 1 ∈ L
    · have hlen : (L.erase (X + 1)).length < X := by rw [List.length_erase_of_mem hm]; have := List.length_pos_of_mem hm; omega
      obtain ⟨f, h1, h2, h3⟩ := ih _ hlen
      refine ⟨f, h1, by omega, fun g => h3 ((List.mem_erase_of_ne (by omega)).2 g)⟩
    · exact ⟨X + 1, by omega, Nat.le_refl _, hm⟩
/-- All used cells stand in U. -/
def Used (n : Nat) (C : Nat → Int) (U : List Nat) : Prop := ∀ r, 1 ≤ r → r < n → 0 ≤ C r → r ∈ U
/-- A free cell and two more. -/
theorem Inv.three {n : Nat} {B C : Nat → Int} {U : List Nat} (h : Inv n B C) (hU : Used n C U) (hl : U.length + 4 ≤ n) {p : Nat} (hp1 : 1 ≤ p) (hp : p < n) (hf : C p < 0) :
    ∃ pr nx : Nat, B p = -(pr : Int) ∧ C p = -(nx : Int) ∧ pr < n ∧ nx < n ∧ nx ≠ pr ∧ pr ≠ p ∧ nx ≠ p ∧ 1 ≤ pr ∧ 1 ≤ nx := by
  obtain ⟨nx, e1, n1, n2, n3, n4, n5⟩ := h.next p hp1 hp hf
  obtain ⟨pr, e2, m1, m2, m3, m4⟩ := h.prev p hp1 hp hf
  obtain ⟨f, f1, f2, f3⟩ := leaves_out (n - 1) (p :: U) (by simp; omega)
  have ff : C f < 0 := by
    rcases Int.lt_or_le (C f) 0 with g | g
    · exact g
    · exact absurd (hU f f1 (by omega) g) (fun g => f3 (List.mem_cons_of_mem _ g))
  have fp : f ≠ p := fun g => f3 (by rw [g]; simp)
  obtain ⟨k, k1, k2, k3⟩ := leaves_out (n - 1) (f :: p :: U) (by simp; omega)
  have kf : C k < 0 := by
    rcases Int.lt_or_le (C k) 0 with g | g
    · exact g
    · exact absurd (hU k k1 (by omega) g) (fun g => k3 (List.mem_cons_of_mem _ (List.mem_cons_of_mem _ g)))
  have kp : k ≠ p := fun g => k3 (by rw [g]; simp)
  have kff : k ≠ f := fun g => k3 (by rw [g]; simp)
  have hnp : nx ≠ p := by
    rintro rfl
    rcases n5 with ⟨g1, g2⟩ | ⟨g1, g2, g3⟩
    · omega
    · rcases Nat.lt_or_ge nx f with g | g
      · have := g2 f g (by omega); omega
      · have := g3 f f1 (by omega); omega
  refine ⟨pr, nx, e2, e1, m2, n2, ?_, ?_, hnp, m1, n1⟩
  · rintro rfl
    obtain ⟨p2, a1, a2, a3, a4, a5, a6⟩ := h.next nx n1 n2 n3
    obtain rfl : p2 = p := by omega
    -- two cells alone: every free cell is one of them
    have key : ∀ x, 1 ≤ x → x < n → C x < 0 → x = p2 ∨ x = nx := by
      intro x x1 x2 x3
      rcases n5 with ⟨g1, g2⟩ | ⟨g1, g2, g3⟩ <;> rcases a6 with ⟨b1, b2⟩ | ⟨b1, b2, b3⟩
      · omega
      · rcases Nat.lt_trichotomy x p2 with g | g | g
        · have := b3 x x1 g; omega
        · exact .inl g
        · rcases Nat.lt_trichotomy x nx with k | k | k
          · have := g2 x g k; omega
          · exact .inr k
          · have := b2 x k x2; omega
      · rcases Nat.lt_trichotomy x nx with g | g | g
        · have := g3 x x1 g; omega
        · exact .inr g
        · rcases Nat.lt_trichotomy x p2 with k | k | k
          · have := b2 x g k; omega
          · exact .inl k
          · have := g2 x k x2; omega
      · omega
    rcases key f f1 (by omega) ff with g | g
    · exact fp g
    · rcases key k k1 (by omega) kf with g2 | g2
      · exact kp g2
      · exact kff (by rw [g, g2])
  · rintro rfl
    omega
/-- The way along the free cells to one that fits: 'rep' the first sign. -/
structure Seek (n : Nat) (C : Nat → Int) (rep : Nat) (chs : List Nat) (f : Nat → Nat) (k : Nat) : Prop where
  zero : f 0 = 0
  pos : 1 ≤ k
  step : ∀ j, j < k → C (f j) = -(f (j + 1) : Int) ∧ 1 ≤ f (j + 1) ∧ f (j + 1) < n
  notlast : ∀ j, 0 < j → j < k → C (f j) ≠ C 0
  bad : ∀ j, 0 < j → j < k → f j ≤ rep ∨ ∃ c ∈ chs, f j - rep + c < n ∧ 0 ≤ C (f j - rep + c)
  lo : rep < f k
  up : ∀ j, j < k → f j < f (j + 1)
  fits : ∀ c ∈ chs, f k - rep + c < n ∧ C (f k - rep + c) < 0
theorem Inv.chain {n : Nat} {B C : Nat → Int} (h : Inv n B C) : ∀ x, 1 ≤ x → x < n → C x < 0 → ∃ (f : Nat → Nat) (k : Nat), f 0 = 0 ∧ 1 ≤ k ∧ f k = x ∧ (∀ j, j < k → C (f j) = -(f (j + 1) : Int) ∧ 1 ≤ f (j + 1) ∧ f (j + 1) < n ∧ C (f (j + 1)) < 0 ∧ f j < f (j + 1)) ∧ (∀ j, 0 < j → j < k → C (f j) ≠ C 0) := by
  intro x
  induction x using Nat.strongRecOn with
  | _ x ih =>
    intro x1 x2 x3
    obtain ⟨hd, r1, r2, r3, r4, r5⟩ := h.root
    by_cases e : x = hd
    · subst e
      exact ⟨fun j => if j = 0 then 0 else x, 1, rfl, Nat.le_refl _, rfl, fun j hj => by obtain rfl : j = 0 := by omega
                                                                                         exact ⟨r1, x1, x2, x3, by simp; omega⟩, fun j a b => by omega⟩
    · obtain ⟨p, e2, m1, m2, m3, m4⟩ := h.prev x x1 x2 x3
      obtain ⟨q, f1, f2, f3, f4, f5, f6⟩ := h.next p m1 m2 m3
      obtain rfl : q = x := by omega
      have hdx : hd < q := by
        rcases Nat.lt_trichotomy q hd with g | g | g
        · have := r5 q x1 g; omega
        · exact absurd g e
        · exact g
      have hpq : p < q := by
        rcases f6 with ⟨g1, _⟩ | ⟨g1, g2, g3⟩
        · exact g1
        · have := g3 hd r2 hdx; omega
      obtain ⟨f, k, a0, a1, a2, a3, a4⟩ := ih p hpq m1 m2 m3
      refine ⟨fun j => if j = k + 1 then q else f j, k + 1, by simp [a0], by omega, by simp, fun j hj => ?_, fun j j1 j2 => ?_⟩
      · by_cases ej : j = k
        · subst ej
          dsimp only
          rw [if_pos rfl, if_neg (by omega), a2]
          exact ⟨m4, x1, x2, x3, hpq⟩
        · dsimp only
          rw [if_neg (by omega), if_neg (by omega)]
          exact a3 j (by omega)
      · dsimp only
        rw [if_neg (by omega)]
        by_cases ej : j = k
        · subst ej; rw [a2, m4, r1]; omega
        · exact a4 j j1 (by omega)
theorem chain_mono {C : Nat → Int} {n : Nat} {f : Nat → Nat} {k : Nat} (h : ∀ j, j < k → C (f j) = -(f (j + 1) : Int) ∧ 1 ≤ f (j + 1) ∧ f (j + 1) < n ∧ C (f (j + 1)) < 0 ∧ f j < f (j + 1)) : ∀ d j, j + d ≤ k → f j ≤ f (j + d) := by
  intro d
  induction d with
  | zero => intro j _; exact Nat.le_refl _
  | succ d ih => intro j hj; have := ih j (by omega); have := (h (j + d) (by omega)).2.2.2.2; rw [← Nat.add_assoc]; omega
/-- There is a place for some signs among the free cells. -/
theorem Inv.seek {n : Nat} {B C : Nat → Int} {U : List Nat} (h : Inv n B C) (hU : Used n C U) (rep : Nat) (chs : List Nat) (hr : rep ≤ 255) (hc : ∀ c ∈ chs, c ≤ 255) (hl : U.length * chs.length + U.length + 600 ≤ n) (hrc : rep ∈ chs) :
    ∃ f k, Seek n C rep chs f k := by
  have good : ∃ g, (1 ≤ g ∧ g + 300 ≤ n ∧ C g < 0 ∧ rep < g ∧ ∀ c ∈ chs, C (g - rep + c) < 0) := by
    obtain ⟨g, g1, g2, g3⟩ := leaves_out (n - 300) (List.range (rep + 1) ++ U ++ U.flatMap (fun u => chs.map (fun c => u + rep - c))) (by
      have hfl : (U.flatMap (fun u => chs.map (fun c => u + rep - c))).length = U.length * chs.length := by
        clear hU hl
        induction U with
        | nil => simp
        | cons u U ih => simp [List.flatMap_cons, ih, Nat.succ_mul]; omega
      simp only [List.length_append, List.length_range, hfl]; omega)
    simp only [List.mem_append, List.mem_range, List.mem_flatMap, List.mem_map, not_or, not_exists, not_and] at g3
    obtain ⟨⟨a1, a2⟩, a3⟩ := g3
    have hfree : ∀ r, 1 ≤ r → r < n → r ∉ U → C r < 0 := fun r r1 r2 r3 => by
      rcases Int.lt_or_le (C r) 0 with g | g
      · exact g
      · exact absurd (hU r r1 r2 g) r3
    refine ⟨g, g1, by omega, hfree g g1 (by omega) a2, by omega, fun c hcc => ?_⟩
    have := hc c hcc
    exact hfree _ (by omega) (by omega) fun hu => a3 (g - rep + c) hu c hcc (by omega)
  -- the least one
  have least : ∀ m, (∃ g, g ≤ m ∧ (1 ≤ g ∧ g + 300 ≤ n ∧ C g < 0 ∧ rep < g ∧ ∀ c ∈ chs, C (g - rep + c) < 0)) → ∃ g, (1 ≤ g ∧ g + 300 ≤ n ∧ C g < 0 ∧ rep < g ∧ ∀ c ∈ chs, C (g - rep + c) < 0) ∧ ∀ y, y < g → ¬ (1 ≤ y ∧ y + 300 ≤ n ∧ C y < 0 ∧ rep < y ∧ ∀ c ∈ chs, C (y - rep + c) < 0) := by
    intro m
    induction m with
    | zero => rintro ⟨g, a, b, _⟩; omega
    | succ m ih =>
      rintro ⟨g, a, b⟩
      by_cases e : ∃ y, y ≤ m ∧ (1 ≤ y ∧ y + 300 ≤ n ∧ C y < 0 ∧ rep < y ∧ ∀ c ∈ chs, C (y - rep + c) < 0)
      · exact ih e
      · obtain rfl : g = m + 1 := by
          rcases Nat.lt_or_ge g (m + 1) with k | k
          · exact absurd ⟨g, by omega, b⟩ e
          · omega
        exact ⟨m + 1, b, fun y hy hg => e ⟨y, by omega, hg⟩⟩
  obtain ⟨g0, hg0⟩ := good
  obtain ⟨g, ⟨b1, b2, b3, b4, b5⟩, hmin⟩ := least g0 ⟨g0, Nat.le_refl _, hg0⟩
  obtain ⟨f, k, a0, a1, a2, a3, a4⟩ := h.chain g b1 (by omega) b3
  refine ⟨f, k, a0, a1, fun j hj => ⟨(a3 j hj).1, (a3 j hj).2.1, (a3 j hj).2.2.1⟩, a4, fun j j1 j2 => ?_, by rw [a2]; exact b4, fun j hj => (a3 j hj).2.2.2.2, fun c hcc => by rw [a2]; have := hc c hcc; exact ⟨by omega, b5 c hcc⟩⟩
  obtain ⟨i, rfl⟩ : ∃ i, j = i + 1 := ⟨j - 1, by omega⟩
  have hfj := a3 i (by omega)
  have hlt : f (i + 1) < g := by
    have h1 : f (i + 1) < f (i + 2) := (a3 (i + 1) j2).2.2.2.2
    have h2 := chain_mono a3 (k - (i + 2)) (i + 2) (by omega)
    rw [show i + 2 + (k - (i + 2)) = k by omega, a2] at h2
    omega
  by_cases e : f (i + 1) ≤ rep
  · exact .inl e
  · refine .inr ?_
    have hn := hmin _ hlt
    by_cases e2 : ∀ c ∈ chs, C (f (i + 1) - rep + c) < 0
    · exact absurd ⟨hfj.2.1, by omega, hfj.2.2.2.1, by omega, e2⟩ hn
    · simp only [Classical.not_forall] at e2
      obtain ⟨c, hcc, hx⟩ := e2
      have := hc c hcc
      exact ⟨c, hcc, by omega, by omega⟩
end Go.Proofs.Ytddcjmdcpkmnjab.Da
namespace Go.Proofs.Ytddcjmdcpkmnjab.Da
structure Marked (n p base : Nat) (B C : Nat → Int) (chs : List Nat) (B' C' : Nat → Int) : Prop where
  inv : Inv n B' C'
  based : B' p = (base : Int)
  new : ∀ c ∈ chs, base + c < n ∧ C (base + c) < 0 ∧ C' (base + c) = (p : Int)
  old : ∀ r, 1 ≤ r → r < n → 0 ≤ C r → C' r = C r
  free : ∀ r, 1 ≤ r → r < n → C r < 0 → (∀ c ∈ chs, r ≠ base + c) → C' r < 0
  same : ∀ r, r < n → r ≠ p → (r = 0 ∨ 0 ≤ C r) → B' r = B r
theorem Marked.used {n p base : Nat} {B C B' C' : Nat → Int} {chs U : List Nat} (h : Marked n p base B C chs B' C') (hU : Used n C U) : Used n C' (chs.map (base + ·) ++ U) := by
  intro r r1 r2 r3
  rw [List.mem_append]
  by_cases e : 0 ≤ C r
  · exact .inr (hU r r1 r2 e)
  · by_cases e2 : ∀ c ∈ chs, r ≠ base + c
    · have := h.free r r1 r2 (by omega) e2; omega
    · simp only [Classical.not_forall, Classical.not_not, ne_eq] at e2
      obtain ⟨c, hc, hx⟩ := e2
      exact .inl (List.mem_map.2 ⟨c, hc, hx.symm⟩)
theorem Marked.start {n p base : Nat} {B C : Nat → Int} (h : Inv n B C) (hp : p < n) (hpu : p = 0 ∨ 0 ≤ C p) (hb : p = 0 → B 0 = (base : Int)) : Marked n p base B C [] (if p = 0 then B else upd B p base) C := by
  refine ⟨?_, ?_, by simp, fun _ _ _ _ => rfl, fun _ _ _ h _ => h, fun r r1 r2 _ => ?_⟩
  · by_cases e : p = 0
    · rw [if_pos e]; exact h
    · rw [if_neg e]
      have hu : 0 ≤ C p := hpu.resolve_left e
      refine ⟨h.root, fun x a b c => ?_, fun x a b c => ?_, h.par⟩
      · obtain ⟨q, q1, q2, q3, q4, q5, q6⟩ := h.next x a b c
        exact ⟨q, q1, q2, q3, q4, by rw [upd_other _ _ (fun g => by subst g; omega)]; exact q5, q6⟩
      · obtain ⟨q, q1, q2, q3, q4, q5⟩ := h.prev x a b c
        exact ⟨q, by rw [upd_other _ _ (fun g => by subst g; omega)]; exact q1, q2, q3, q4, q5⟩
  · by_cases e : p = 0
    · rw [if_pos e]; subst e; exact hb rfl
    · rw [if_neg e]; exact upd_same _ _ _
  · by_cases e : p = 0
    · rw [if_pos e]
    · rw [if_neg e]; exact upd_other _ _ r2
theorem Marked.step {n p base c : Nat} {B C B' C' : Nat → Int} {chs : List Nat} (h : Marked n p base B C chs B' C') (hp : p < n) (hpu : p = 0 ∨ 0 ≤ C p) (hb : 1 ≤ base) (hc : c ∉ chs) (hn : base + c < n) (hf : C (base + c) < 0)
    {pr nx : Nat} (hpr : B' (base + c) = -(pr : Int)) (hnx : C' (base + c) = -(nx : Int)) (hne : nx ≠ pr) (hpp : pr ≠ base + c) (hpn : nx ≠ base + c) :
    Marked n p base B C (chs ++ [c]) (upd B' nx (B' (base + c))) (upd (upd (head C' (base + c) (C' (base + c))) pr (C' (base + c))) (base + c) p) := by
  have hf' : C' (base + c) < 0 := h.free _ (by omega) hn hf (fun c2 h2 e => hc (by rw [show c = c2 from by omega]; exact h2))
  obtain ⟨nx2, e1, n1, n2, n3, n4, n5⟩ := h.inv.next _ (by omega) hn hf'
  obtain rfl : nx2 = nx := by omega
  obtain ⟨pr2, e2, m1, m2, m3, m4⟩ := h.inv.prev _ (by omega) hn hf'
  obtain rfl : pr2 = pr := by omega
  have hpu' : p = 0 ∨ 0 ≤ C' p := by
    rcases hpu with g | g
    · exact .inl g
    · by_cases e : p = 0
      · exact .inl e
      · rw [h.old p (by omega) hp g]; exact .inr g
  have hold : ∀ r, 1 ≤ r → 0 ≤ C' r → r ≠ base + c → upd (upd (head C' (base + c) (C' (base + c))) pr2 (C' (base + c))) (base + c) p r = C' r := fun r r1 r2 r3 => by
    rw [upd_other _ _ r3, upd_other _ _ (fun g => by subst g; omega), head_pos _ _ _ r1]
  refine ⟨h.inv.mark (by omega) hn hf' hnx hpr hne hpp hpn hp hpu', ?_, ?_, ?_, ?_, ?_⟩
  · rw [upd_other]
    · exact h.based
    · rintro rfl; rcases hpu' with g | g <;> omega
  · intro c2 h2
    rcases List.mem_append.1 h2 with g | g
    · obtain ⟨g1, g2, g3⟩ := h.new c2 g
      have hcc : c2 ≠ c := fun e => hc (by rw [← e]; exact g)
      exact ⟨g1, g2, by rw [hold _ (by omega) (by omega) (by omega)]; exact g3⟩
    · have : c2 = c := by simpa using g
      subst this
      exact ⟨hn, hf, upd_same _ _ _⟩
  · intro r r1 r2 r3
    have := h.old r r1 r2 r3
    rw [hold r r1 (by omega) (fun g => by subst g; omega)]
    exact this
  · intro r r1 r2 r3 r4
    have hr := h.free r r1 r2 r3 (fun c2 h2 => r4 c2 (List.mem_append_left _ h2))
    have hrc : r ≠ base + c := r4 c (by simp)
    rw [upd_other _ _ hrc]
    by_cases e : r = pr2
    · subst e; rw [upd_same]; exact hf'
    · rw [upd_other _ _ e, head_pos _ _ _ r1]; exact hr
  · intro r r1 r2 r3
    rw [upd_other _ _ (fun g => by
      subst g
      rcases r3 with g | g
      · omega
      · have := h.old r n1 n2 g; omega)]
    exact h.same r r1 r2 r3
end Go.Proofs.Ytddcjmdcpkmnjab.Da
namespace Go.Proofs.Ytddcjmdcpkmnjab.Da
/-- The sign at a place: 0 behind the end. -/
def chAt (s : ByteArray) (i : Nat) : Nat := if i < s.size then (s.get! i).toNat else 0
def wd (kw : List ByteArray) (x : Nat) : ByteArray := kw.getD x ⟨#[]⟩
/-- The signs at place i, each run once. -/
def addCh (cs : List Nat) (c : Nat) : List Nat := if cs.getLast? = some c then cs else cs ++ [c]
def chsOf (kw : List ByteArray) (i : Nat) (br : List Nat) : List Nat := br.foldl (fun cs x => addCh cs (chAt (wd kw x) i)) []
def sub (kw : List ByteArray) (i : Nat) (br : List Nat) (c : Nat) : List Nat := br.filter (fun x => chAt (wd kw x) i = c)
def cnt (kw : List ByteArray) (i : Nat) (br : List Nat) : Nat := (br.map (fun x => (wd kw x).size + 1 - i)).sum
theorem chAt_le (s : ByteArray) (i : Nat) : chAt s i ≤ 255 := by
  unfold chAt
  split
  · have := (s.get! i).toNat_lt; omega
  · omega
theorem chsOf_append (kw : List ByteArray) (i : Nat) (br : List Nat) (x : Nat) : chsOf kw i (br ++ [x]) = addCh (chsOf kw i br) (chAt (wd kw x) i) := by simp [chsOf]
theorem mem_addCh (cs : List Nat) (c d : Nat) : d ∈ addCh cs c ↔ d ∈ cs ∨ d = c := by
  unfold addCh
  split
  · rename_i h
    constructor
    · exact .inl
    · rintro (h1 | rfl)
      · exact h1
      · exact List.mem_of_getLast? h
  · simp
theorem mem_foldCh (kw : List ByteArray) (i : Nat) (c : Nat) : ∀ (br : List Nat) (cs : List Nat), c ∈ br.foldl (fun cs x => addCh cs (chAt (wd kw x) i)) cs ↔ c ∈ cs ∨ ∃ x ∈ br, chAt (wd kw x) i = c := by
  intro br
  induction br with
  | nil => intro cs; simp
  | cons x br ih =>
    intro cs
    rw [List.foldl_cons, ih, mem_addCh]
    constructor
    · rintro ((h | rfl) | ⟨y, h1, h2⟩)
      · exact .inl h
      · exact .inr ⟨x, by simp, rfl⟩
      · exact .inr ⟨y, by simp [h1], h2⟩
    · rintro (h | ⟨y, h1, h2⟩)
      · exact .inl (.inl h)
      · rcases List.mem_cons.1 h1 with rfl | h1
        · exact .inl (.inr h2.symm)
        · exact .inr ⟨y, h1, h2⟩
theorem mem_chsOf (kw : List ByteArray) (i : Nat) (br : List Nat) (c : Nat) : c ∈ chsOf kw i br ↔ ∃ x ∈ br, chAt (wd kw x) i = c := by
  unfold chsOf; rw [mem_foldCh]; simp
theorem length_addCh (cs : List Nat) (c : Nat) : (addCh cs c).length ≤ cs.length + 1 := by unfold addCh; split <;> simp
theorem length_chsOf (kw : List ByteArray) (i : Nat) (br : List Nat) : (chsOf kw i br).length ≤ br.length := by
  have : ∀ (br cs : List Nat), (br.foldl (fun cs x => addCh cs (chAt (wd kw x) i)) cs).length ≤ cs.length + br.length := by
    intro br
    induction br with
    | nil => intro cs; simp
    | cons x br ih => intro cs; rw [List.foldl_cons]; have := ih (addCh cs (chAt (wd kw x) i)); have := length_addCh cs (chAt (wd kw x) i); simp; omega
  have := this br []
  simpa [chsOf] using this
theorem chsOf_ne_nil (kw : List ByteArray) (i : Nat) {br : List Nat} (h : br ≠ []) : chsOf kw i br ≠ [] := by
  intro e
  obtain ⟨x, hx⟩ := List.exists_mem_of_ne_nil br h
  have := (mem_chsOf kw i br (chAt (wd kw x) i)).2 ⟨x, hx, rfl⟩
  rw [e] at this; cases this
theorem cnt_sub (kw : List ByteArray) (i : Nat) (c : Nat) : ∀ br, cnt kw i br = cnt kw i (sub kw i br c) + cnt kw i (br.filter (fun x => ¬ chAt (wd kw x) i = c)) := by
  intro br
  induction br with
  | nil => rfl
  | cons x br ih =>
    unfold cnt sub at *
    by_cases e : chAt (wd kw x) i = c
    · simp [e, ih]; omega
    · simp [e, ih]; omega
/-- A tree of words is fit: at each place the signs' runs differ. -/
def Fit (kw : List ByteArray) : Nat → Nat → List Nat → Prop
  | 0, _, _ => False
  | k + 1, i, br => br ≠ [] ∧ (∀ x ∈ br, x < kw.length ∧ i ≤ (wd kw x).size) ∧ (chsOf kw i br).Nodup ∧ (0 ∈ chsOf kw i br → ∃ x r, br = x :: r ∧ chAt (wd kw x) i = 0) ∧ ∀ c ∈ chsOf kw i br, c ≠ 0 → Fit kw k (i + 1) (sub kw i br c)
/-- What turns while cells below those of D are made. -/
structure Ext (n : Nat) (D : Nat → Prop) (B C B' C' : Nat → Int) : Prop where
  old : ∀ r, 1 ≤ r → r < n → 0 ≤ C r → C' r = C r
  base : ∀ r, r < n → (r = 0 ∨ 0 ≤ C r) → ¬ D r → B' r = B r
  new : ∀ r, 1 ≤ r → r < n → C r < 0 → 0 ≤ C' r → ∃ p : Nat, C' r = (p : Int) ∧ (D p ∨ (1 ≤ p ∧ p < n ∧ C p < 0))
theorem Ext.refl (n : Nat) (D : Nat → Prop) (B C : Nat → Int) : Ext n D B C B C := ⟨fun _ _ _ _ => rfl, fun _ _ _ _ => rfl, fun r _ _ h1 h2 => by omega⟩
theorem Ext.trans {n : Nat} {D D1 : Nat → Prop} {B C B1 C1 B2 C2 : Nat → Int} (h : Ext n D B C B1 C1) (k : Ext n D1 B1 C1 B2 C2) (hd : ∀ r, D1 r → D r ∨ (1 ≤ r ∧ r < n ∧ C r < 0)) : Ext n D B C B2 C2 := by
  refine ⟨fun r a b c => ?_, fun r a b c => ?_, fun r a b c d => ?_⟩
  · have e := h.old r a b c
    rw [k.old r a b (by omega), e]
  · have e := h.base r a b c
    rw [k.base r a _ _, e]
    · rcases b with b | b
      · exact .inl b
      · by_cases z : r = 0
        · exact .inl z
        · rw [h.old r (by omega) a b]; exact .inr b
    · intro g
      rcases hd r g with g | ⟨g1, g2, g3⟩
      · exact c g
      · rcases b with b | b <;> omega
  · by_cases e : 0 ≤ C1 r
    · rw [k.old r a b e]
      exact h.new r a b c e
    · obtain ⟨p, p1, p2⟩ := k.new r a b (by omega) d
      refine ⟨p, p1, ?_⟩
      rcases p2 with p2 | ⟨p2, p3, p4⟩
      · exact hd p p2
      · refine .inr ⟨p2, p3, ?_⟩
        rcases Int.lt_or_le (C p) 0 with g | g
        · exact g
        · rw [h.old p p2 p3 g] at p4; omega
theorem Marked.ext {n p base : Nat} {B C B' C' : Nat → Int} {chs : List Nat} (h : Marked n p base B C chs B' C') (hb : 1 ≤ base) : Ext n (· = p) B C B' C' := by
  refine ⟨h.old, fun r a b c => h.same r a c b, fun r a b c d => ?_⟩
  by_cases e : ∀ q ∈ chs, r ≠ base + q
  · have := h.free r a b c e; omega
  · simp only [Classical.not_forall, Classical.not_not, ne_eq] at e
    obtain ⟨q, q1, q2⟩ := e
    exact ⟨p, by rw [q2]; exact (h.new q q1).2.2, .inl rfl⟩
/-- From cell p on the cells hold the words br from place i on; all cells below p are ones of F. -/
def Node (n : Nat) (F : Nat → Prop) (B C : Nat → Int) (kw : List ByteArray) (ids : List Int) : Nat → Nat → Nat → List Nat → Prop
  | 0, _, _, _ => False
  | k + 1, p, i, br => ∃ base : Nat, B p = (base : Int) ∧ 1 ≤ base ∧ ∀ c, c ≤ 255 →
      (c ∉ chsOf kw i br → base + c < n → C (base + c) ≠ (p : Int)) ∧
      (c ∈ chsOf kw i br → base + c < n ∧ C (base + c) = (p : Int) ∧ F (base + c) ∧ (c = 0 → B (base + c) = -(ids.getD (br.headD 0) 0)) ∧ (c ≠ 0 → Node n F B C kw ids k (base + c) (i + 1) (sub kw i br c)))
theorem Node.mono {n : Nat} {F G : Nat → Prop} {B C : Nat → Int} {kw : List ByteArray} {ids : List Int} (hFG : ∀ r, F r → G r) : ∀ (k p i : Nat) (br : List Nat), Node n F B C kw ids k p i br → Node n G B C kw ids k p i br := by
  intro k
  induction k with
  | zero => intro p i br h; exact h
  | succ k ih =>
    intro p i br h
    obtain ⟨base, h1, h2, h3⟩ := h
    refine ⟨base, h1, h2, fun c hc => ⟨(h3 c hc).1, fun hm => ?_⟩⟩
    obtain ⟨a1, a2, a3, a4, a5⟩ := (h3 c hc).2 hm
    exact ⟨a1, a2, hFG _ a3, a4, fun h0 => ih _ _ _ (a5 h0)⟩
theorem Node.ext {n : Nat} {F D : Nat → Prop} {B C B' C' : Nat → Int} {kw : List ByteArray} {ids : List Int} (hE : Ext n D B C B' C') (hFD : ∀ r, F r → ¬ D r) : ∀ (k p i : Nat) (br : List Nat), Node n F B C kw ids k p i br → p < n → (p = 0 ∨ 0 ≤ C p) → ¬ D p → Node n F B' C' kw ids k p i br := by
  intro k
  induction k with
  | zero => intro p i br h; exact h.elim
  | succ k ih =>
    intro p i br h hp hpu hD
    obtain ⟨base, h1, h2, h3⟩ := h
    refine ⟨base, by rw [hE.base p hp hpu hD]; exact h1, h2, fun c hc => ⟨fun hm hn e => ?_, fun hm => ?_⟩⟩
    · have hne := (h3 c hc).1 hm hn
      rcases Int.lt_or_le (C (base + c)) 0 with g | g
      · obtain ⟨q, q1, q2⟩ := hE.new (base + c) (by omega) hn g (by omega)
        have : q = p := by omega
        subst this
        rcases q2 with q2 | ⟨q2, q3, q4⟩
        · exact hD q2
        · rcases hpu with z | z <;> omega
      · rw [hE.old _ (by omega) hn g] at e; exact hne e
    · obtain ⟨a1, a2, a3, a4, a5⟩ := (h3 c hc).2 hm
      have hu : 0 ≤ C (base + c) := by omega
      refine ⟨a1, by rw [hE.old _ (by omega) a1 hu]; exact a2, a3, fun h0 => ?_, fun h0 => ih _ _ _ (a5 h0) a1 (.inr hu) (hFD _ a3)⟩
      rw [hE.base _ a1 (.inr hu) (hFD _ a3)]
      exact a4 h0
end Go.Proofs.Ytddcjmdcpkmnjab.Da
namespace Go.Proofs.Ytddcjmdcpkmnjab.Da
def cost (kw : List ByteArray) (i : Nat) (br cs : List Nat) : Nat := (cs.map (fun c => if c = 0 then 0 else cnt kw (i + 1) (sub kw i br c))).sum
theorem cost_append (kw : List ByteArray) (i : Nat) (br a b : List Nat) : cost kw i br (a ++ b) = cost kw i br a + cost kw i br b := by simp [cost]
theorem sum_filter_or (f : Nat → Nat) (P Q : Nat → Bool) (h : ∀ x, P x = true → Q x = true → False) : ∀ l : List Nat, ((l.filter (fun x => P x || Q x)).map f).sum = ((l.filter P).map f).sum + ((l.filter Q).map f).sum := by
  intro l
  induction l with
  | nil => rfl
  | cons x l ih =>
    have hx := h x
    cases hP : P x <;> cases hQ : Q x
    · simp [hP, hQ, ih]
    · simp [hP, hQ, ih]; omega
    · simp [hP, hQ, ih]; omega
    · exact (hx hP hQ).elim
theorem sum_filter_le (f : Nat → Nat) (P : Nat → Bool) : ∀ l : List Nat, ((l.filter P).map f).sum ≤ (l.map f).sum := by
  intro l
  induction l with
  | nil => exact Nat.le_refl _
  | cons x l ih =>
    cases hP : P x <;> simp [hP] <;> omega
theorem sum_ge {f g : Nat → Nat} : ∀ {l : List Nat}, (∀ x ∈ l, g x + 1 ≤ f x) → (l.map g).sum + l.length ≤ (l.map f).sum := by
  intro l
  induction l with
  | nil => intro _; exact Nat.le_refl _
  | cons x l ih =>
    intro h
    have h1 := h x (by simp)
    have h2 := ih (fun y hy => h y (by simp [hy]))
    simp only [List.map_cons, List.sum_cons, List.length_cons]
    omega
theorem cost_le (kw : List ByteArray) (i : Nat) (br : List Nat) (hb : ∀ x ∈ br, i ≤ (wd kw x).size) : ∀ cs : List Nat, cs.Nodup → (∀ c ∈ cs, c ∈ chsOf kw i br) →
    cs.length + cost kw i br cs ≤ ((br.filter (fun x => decide (chAt (wd kw x) i ∈ cs))).map (fun x => (wd kw x).size + 1 - i)).sum := by
  intro cs
  induction cs with
  | nil => intro _ _; simp [cost]
  | cons c cs ih =>
    intro hn hm
    rw [List.nodup_cons] at hn
    have h1 := ih hn.2 (fun d hd => hm d (by simp [hd]))
    have h2 := sum_filter_or (fun x => (wd kw x).size + 1 - i) (fun x => decide (chAt (wd kw x) i = c)) (fun x => decide (chAt (wd kw x) i ∈ cs)) (fun x a b => hn.1 (by
      have a := of_decide_eq_true a
      have b := of_decide_eq_true b
      rwa [a] at b)) br
    have h3 : (fun x => decide (chAt (wd kw x) i ∈ c :: cs)) = (fun x => decide (chAt (wd kw x) i = c) || decide (chAt (wd kw x) i ∈ cs)) := by
      funext x; simp [List.mem_cons]
    rw [h3, h2]
    have h4 : cost kw i br (c :: cs) = (if c = 0 then 0 else cnt kw (i + 1) (sub kw i br c)) + cost kw i br cs := by simp [cost]
    rw [h4]
    have h5 : 1 + (if c = 0 then 0 else cnt kw (i + 1) (sub kw i br c)) ≤ ((br.filter (fun x => decide (chAt (wd kw x) i = c))).map (fun x => (wd kw x).size + 1 - i)).sum := by
      obtain ⟨x, hx1, hx2⟩ := (mem_chsOf kw i br c).1 (hm c (by simp))
      have hne : 1 ≤ (br.filter (fun x => decide (chAt (wd kw x) i = c))).length := List.length_pos_of_mem (List.mem_filter.2 ⟨hx1, decide_eq_true hx2⟩)
      by_cases e : c = 0
      · rw [if_pos e]
        have := sum_ge (f := fun x => (wd kw x).size + 1 - i) (g := fun _ => 0) (l := br.filter (fun x => decide (chAt (wd kw x) i = c))) (fun y hy => by
          have := hb y (List.mem_filter.1 hy).1
          omega)
        have h0 : ∀ l : List Nat, (l.map (fun _ => 0)).sum = 0 := by
          intro l
          induction l with
          | nil => rfl
          | cons x l ih => rw [List.map_cons, List.sum_cons, ih]
        have h0 := h0 (br.filter (fun x => decide (chAt (wd kw x) i = c)))
        omega
      · rw [if_neg e]
        have := sum_ge (f := fun x => (wd kw x).size + 1 - i) (g := fun x => (wd kw x).size + 1 - (i + 1)) (l := br.filter (fun x => decide (chAt (wd kw x) i = c))) (fun y hy => by
          have hy2 := of_decide_eq_true (List.mem_filter.1 hy).2
          have : i < (wd kw y).size := by
            unfold chAt at hy2
            split at hy2
            · assumption
            · omega
          omega)
        unfold cnt sub
        omega
    simp only [List.length_cons]
    omega
theorem cost_all (kw : List ByteArray) (i : Nat) (br : List Nat) (hb : ∀ x ∈ br, i ≤ (wd kw x).size) (hn : (chsOf kw i br).Nodup) : (chsOf kw i br).length + cost kw i br (chsOf kw i br) ≤ cnt kw i br := by
  have h1 := cost_le kw i br hb _ hn (fun _ h => h)
  have h2 := sum_filter_le (fun x => (wd kw x).size + 1 - i) (fun x => decide (chAt (wd kw x) i ∈ chsOf kw i br)) br
  unfold cnt
  omega
theorem Inv.setUsed {n : Nat} {B C : Nat → Int} (h : Inv n B C) (q : Nat) (x : Int) (hq : 0 ≤ C q) : Inv n (upd B q x) C := by
  refine ⟨h.root, fun p a b c => ?_, fun p a b c => ?_, h.par⟩
  · obtain ⟨r, q1, q2, q3, q4, q5, q6⟩ := h.next p a b c
    exact ⟨r, q1, q2, q3, q4, by rw [upd_other _ _ (fun g => by subst g; omega)]; exact q5, q6⟩
  · obtain ⟨r, q1, q2, q3, q4, q5⟩ := h.prev p a b c
    exact ⟨r, by rw [upd_other _ _ (fun g => by subst g; omega)]; exact q1, q2, q3, q4, q5⟩
/-- Behind the signs of the first j of all: their trees stand. -/
structure Grow (n p base k i : Nat) (B C C1 : Nat → Int) (kw : List ByteArray) (ids : List Int) (br : List Nat) (U : List Nat) (j : Nat) (Bj Cj : Nat → Int) (Uj : List Nat) : Prop where
  inv : Inv n Bj Cj
  used : Used n Cj Uj
  len : Uj.length ≤ U.length + (chsOf kw i br).length + cost kw i br ((chsOf kw i br).take j)
  ext : Ext n (· = p) B C Bj Cj
  bp : Bj p = (base : Int)
  kids : ∀ c ∈ chsOf kw i br, base + c < n ∧ Cj (base + c) = (p : Int) ∧ C (base + c) < 0
  only : ∀ r, 1 ≤ r → r < n → Cj r = (p : Int) → ∃ c ∈ chsOf kw i br, r = base + c
  free1 : ∀ r, 1 ≤ r → r < n → Cj r < 0 → C1 r < 0
  done : ∀ c ∈ (chsOf kw i br).take j, (c = 0 → Bj base = -(ids.getD (br.headD 0) 0)) ∧ (c ≠ 0 → Node n (fun r => 1 ≤ r ∧ r < n ∧ C1 r < 0) Bj Cj kw ids k (base + c) (i + 1) (sub kw i br c))
  pend : ∀ c ∈ (chsOf kw i br).drop j, ∀ r, 1 ≤ r → r < n → Cj r ≠ ((base + c : Nat) : Int)
theorem Grow.start {n p base k i : Nat} {B C B1 C1 : Nat → Int} {kw : List ByteArray} {ids : List Int} {br U : List Nat} (h : Marked n p base B C (chsOf kw i br) B1 C1) (hI : Inv n B C) (hU : Used n C U) (hb : 1 ≤ base) (hpu : p = 0 ∨ 0 ≤ C p) (hp : p < n)
    (hno : ∀ r, 1 ≤ r → r < n → C r ≠ (p : Int)) : Grow n p base k i B C C1 kw ids br U 0 B1 C1 ((chsOf kw i br).map (base + ·) ++ U) := by
  refine ⟨h.inv, h.used hU, by simp [cost]; omega, h.ext hb, h.based, fun c hc => ?_, fun r a b c => ?_, fun r _ _ h => h, by simp, fun c hc r a b e => ?_⟩
  · obtain ⟨g1, g2, g3⟩ := h.new c hc
    exact ⟨g1, g3, g2⟩
  · rcases Int.lt_or_le (C r) 0 with g | g
    · by_cases e : ∀ q ∈ chsOf kw i br, r ≠ base + q
      · have := h.free r a b g e; omega
      · simp only [Classical.not_forall, Classical.not_not, ne_eq] at e
        obtain ⟨q, q1, q2⟩ := e
        exact ⟨q, q1, q2⟩
    · rw [h.old r a b g] at c
      exact absurd c (hno r a b)
  · have hc' : c ∈ chsOf kw i br := List.mem_of_mem_drop hc
    obtain ⟨g1, g2, g3⟩ := h.new c hc'
    rcases Int.lt_or_le (C r) 0 with g | g
    · by_cases e2 : ∀ q ∈ chsOf kw i br, r ≠ base + q
      · have := h.free r a b g e2; omega
      · simp only [Classical.not_forall, Classical.not_not, ne_eq] at e2
        obtain ⟨q, q1, q2⟩ := e2
        have := (h.new q q1).2.2
        rw [q2] at e
        have e3 : p = base + c := by omega
        rcases hpu with z | z
        · omega
        · rw [e3] at z; omega
    · rw [h.old r a b g] at e
      obtain ⟨t, t1, t2, t3⟩ := hI.par r a b g
      have : t = base + c := by omega
      subst this
      rcases t3 with t3 | t3 <;> omega
theorem take_succ_get {l : List Nat} {j : Nat} (h : j < l.length) : l.take (j + 1) = l.take j ++ [l[j]] := List.take_succ_eq_append_getElem h
theorem Grow.leaf {n p base k i j : Nat} {B C C1 Bj Cj : Nat → Int} {kw : List ByteArray} {ids : List Int} {br U Uj : List Nat} (h : Grow n p base k i B C C1 kw ids br U j Bj Cj Uj) (hj : j < (chsOf kw i br).length) (hc : (chsOf kw i br)[j] = 0) (hpu : p = 0 ∨ 0 ≤ C p) (hb : 1 ≤ base)
    (hn : (chsOf kw i br).Nodup) (hused : ∀ c ∈ chsOf kw i br, 0 ≤ C1 (base + c)) : Grow n p base k i B C C1 kw ids br U (j + 1) (upd Bj base (-(ids.getD (br.headD 0) 0))) Cj Uj := by
  have hm : (chsOf kw i br)[j] ∈ chsOf kw i br := List.getElem_mem _
  rw [hc] at hm
  obtain ⟨k1, k2, k3⟩ := h.kids 0 hm
  rw [Nat.add_zero] at k1 k2 k3
  have hbp : p ≠ base := by rintro rfl; rcases hpu with z | z <;> omega
  refine ⟨h.inv.setUsed _ _ (by omega), h.used, by rw [take_succ_get hj, cost_append, hc]; have := h.len; omega, ⟨h.ext.old, fun r a b c => ?_, h.ext.new⟩, by rw [upd_other _ _ hbp]; exact h.bp, h.kids, h.only, h.free1, fun c hc2 => ?_, fun c hc2 => h.pend c ?_⟩
  · rw [upd_other _ _ (fun g => by subst g; rcases b with b | b <;> omega)]
    exact h.ext.base r a b c
  · rw [take_succ_get hj, hc] at hc2
    rcases List.mem_append.1 hc2 with g | g
    · have hc0 : c ≠ 0 := by
        rintro rfl
        rw [← List.take_append_drop (j + 1) (chsOf kw i br), take_succ_get hj, hc, List.append_assoc, List.nodup_append] at hn
        exact hn.2.2 0 g 0 (by simp) rfl
      refine ⟨fun e => absurd e hc0, fun _ => ?_⟩
      have hN := (h.done c g).2 hc0
      have hcm : c ∈ chsOf kw i br := List.mem_of_mem_take g
      have hu0 := hused 0 hm
      rw [Nat.add_zero] at hu0
      obtain ⟨q1, q2, q3⟩ := h.kids c hcm
      exact Node.ext (D := (· = base)) ⟨fun _ _ _ _ => rfl, fun r _ _ d => upd_other _ _ d, fun r _ _ d1 d2 => by omega⟩ (fun r hr e => by rw [e] at hr; omega) k (base + c) (i + 1) _ hN q1 (.inr (by omega)) (by omega)
    · have : c = 0 := by simpa using g
      subst this
      exact ⟨fun _ => upd_same _ _ _, fun g => absurd rfl g⟩
  · have : (chsOf kw i br).drop j = (chsOf kw i br)[j] :: (chsOf kw i br).drop (j + 1) := List.drop_eq_getElem_cons hj
    rw [this]
    exact List.mem_cons_of_mem _ hc2
/-- What add leaves. -/
def Added (n p k i : Nat) (B C : Nat → Int) (kw : List ByteArray) (ids : List Int) (br U : List Nat) (B' C' : Nat → Int) : Prop :=
  ∃ U' : List Nat, Inv n B' C' ∧ Used n C' U' ∧ U'.length ≤ U.length + cnt kw i br ∧ Ext n (· = p) B C B' C' ∧ Node n (fun r => 1 ≤ r ∧ r < n ∧ C r < 0) B' C' kw ids k p i br
theorem Grow.below {n p base k i j : Nat} {B C C1 Bj Cj B2 C2 : Nat → Int} {kw : List ByteArray} {ids : List Int} {br U Uj : List Nat} (h : Grow n p base k i B C C1 kw ids br U j Bj Cj Uj) (hj : j < (chsOf kw i br).length) (hc : (chsOf kw i br)[j] ≠ 0) (hpu : p = 0 ∨ 0 ≤ C p) (hp : p < n) (hb : 1 ≤ base)
    (hn : (chsOf kw i br).Nodup) (hused : ∀ c ∈ chsOf kw i br, 0 ≤ C1 (base + c)) (hA : Added n (base + (chsOf kw i br)[j]) k (i + 1) Bj Cj kw ids (sub kw i br (chsOf kw i br)[j]) Uj B2 C2) : ∃ U2, Grow n p base k i B C C1 kw ids br U (j + 1) B2 C2 U2 := by
  obtain ⟨U2, a1, a2, a3, a4, a5⟩ := hA
  generalize hcv : (chsOf kw i br)[j] = c0 at *
  have hm : c0 ∈ chsOf kw i br := by rw [← hcv]; exact List.getElem_mem _
  obtain ⟨k1, k2, k3⟩ := h.kids c0 hm
  have hqu := hused c0 hm
  have hpq : p ≠ base + c0 := by
    intro e
    rcases hpu with z | z
    · omega
    · rw [e] at z; omega
  have hpj : p = 0 ∨ 0 ≤ Cj p := by
    by_cases z : p = 0
    · exact .inl z
    · right
      rw [h.ext.old p (by omega) hp (hpu.resolve_left z)]
      exact hpu.resolve_left z
  have hnotin : c0 ∉ (chsOf kw i br).take j := by
    intro g
    rw [← List.take_append_drop (j + 1) (chsOf kw i br), take_succ_get hj, hcv, List.append_assoc, List.nodup_append] at hn
    exact hn.2.2 c0 g c0 (by simp) rfl
  have hnotin2 : c0 ∉ (chsOf kw i br).drop (j + 1) := by
    intro g
    rw [← List.take_append_drop (j + 1) (chsOf kw i br), take_succ_get hj, hcv, List.nodup_append] at hn
    exact hn.2.2 c0 (by simp) c0 g rfl
  refine ⟨U2, a1, a2, ?_, h.ext.trans a4 (fun r e => .inr (by rw [e]; exact ⟨by omega, k1, k3⟩)), ?_, fun c hc2 => ?_, fun r a b e => ?_, fun r a b e => ?_, fun c hc2 => ?_, fun c hc2 r a b e => ?_⟩
  · rw [take_succ_get hj, hcv, cost_append]
    have h1 : cost kw i br [c0] = cnt kw (i + 1) (sub kw i br c0) := by simp [cost, hc]
    have := h.len
    omega
  · rw [a4.base p hp hpj hpq]; exact h.bp
  · obtain ⟨q1, q2, q3⟩ := h.kids c hc2
    exact ⟨q1, by rw [a4.old _ (by omega) q1 (by omega)]; exact q2, q3⟩
  · rcases Int.lt_or_le (Cj r) 0 with g | g
    · obtain ⟨t, t1, t2⟩ := a4.new r a b g (by omega)
      have : t = p := by omega
      subst this
      rcases t2 with t2 | ⟨t2, t3, t4⟩
      · exact absurd t2 hpq
      · rcases hpj with z | z <;> omega
    · rw [a4.old r a b g] at e
      exact h.only r a b e
  · rcases Int.lt_or_le (Cj r) 0 with g | g
    · exact h.free1 r a b g
    · rw [a4.old r a b g] at e; omega
  · rw [take_succ_get hj, hcv] at hc2
    rcases List.mem_append.1 hc2 with g | g
    · have hcm : c ∈ chsOf kw i br := List.mem_of_mem_take g
      have hcc : c ≠ c0 := fun e => hnotin (by rw [← e]; exact g)
      obtain ⟨q1, q2, q3⟩ := h.kids c hcm
      refine ⟨fun e => ?_, fun e => ?_⟩
      · have h0 := h.kids 0 (by rw [← e]; exact hcm)
        rw [Nat.add_zero] at h0
        rw [a4.base base h0.1 (.inr (by omega)) (by omega)]
        exact (h.done c g).1 e
      · exact Node.ext a4 (fun r hr e2 => by rw [e2] at hr; omega) k _ _ _ ((h.done c g).2 e) q1 (.inr (by omega)) (by omega)
    · have : c = c0 := by simpa using g
      subst this
      exact ⟨fun e => absurd e hc, fun _ => Node.mono (fun r hr => ⟨hr.1, hr.2.1, h.free1 r hr.1 hr.2.1 hr.2.2⟩) k _ _ _ a5⟩
  · have hd : (chsOf kw i br).drop j = (chsOf kw i br)[j] :: (chsOf kw i br).drop (j + 1) := List.drop_eq_getElem_cons hj
    have hcm : c ∈ chsOf kw i br := List.mem_of_mem_drop hc2
    have hcc : c ≠ c0 := fun e => hnotin2 (by rw [← e]; exact hc2)
    obtain ⟨q1, q2, q3⟩ := h.kids c hcm
    have hpe := h.pend c (by rw [hd]; exact List.mem_cons_of_mem _ hc2) r a b
    rcases Int.lt_or_le (Cj r) 0 with g | g
    · obtain ⟨t, t1, t2⟩ := a4.new r a b g (by omega)
      have : t = base + c := by omega
      subst this
      rcases t2 with t2 | ⟨t2, t3, t4⟩ <;> omega
    · rw [a4.old r a b g] at e
      exact hpe e
theorem Grow.fin {n p base k i : Nat} {B C C1 Bj Cj : Nat → Int} {kw : List ByteArray} {ids : List Int} {br U Uj : List Nat} (h : Grow n p base k i B C C1 kw ids br U (chsOf kw i br).length Bj Cj Uj) (hb : 1 ≤ base) (hx : ∀ x ∈ br, i ≤ (wd kw x).size) (hn : (chsOf kw i br).Nodup)
    (hc1 : ∀ r, 1 ≤ r → r < n → C1 r < 0 → C r < 0) : Added n p (k + 1) i B C kw ids br U Bj Cj := by
  have hcost := cost_all kw i br hx hn
  have hlen := h.len
  rw [List.take_length] at hlen
  refine ⟨Uj, h.inv, h.used, by omega, h.ext, base, h.bp, hb, fun c hc => ⟨fun hm hlt e => ?_, fun hm => ?_⟩⟩
  · obtain ⟨c2, d1, d2⟩ := h.only _ (by omega) hlt e
    exact hm (by rw [show c = c2 from by omega]; exact d1)
  · obtain ⟨q1, q2, q3⟩ := h.kids c hm
    have hd := h.done c (by rw [List.take_length]; exact hm)
    exact ⟨q1, q2, ⟨by omega, q1, q3⟩, fun e => by subst e; exact hd.1 rfl, fun e => Node.mono (fun r hr => ⟨hr.1, hr.2.1, hc1 r hr.1 hr.2.1 hr.2.2⟩) k _ _ _ (hd.2 e)⟩
end Go.Proofs.Ytddcjmdcpkmnjab.Da
namespace Go.Proofs.Ytddcjmdcpkmnjab.Da
theorem addCh_lt {cs : List Nat} {c : Nat} (h : cs.Pairwise (· < ·)) (hc : ∀ d ∈ cs, d ≤ c) : (addCh cs c).Pairwise (· < ·) := by
  unfold addCh
  split
  · exact h
  · rename_i hne
    rw [List.pairwise_append]
    refine ⟨h, by simp, fun d hd e he => ?_⟩
    rw [List.mem_singleton.1 he]
    have h1 := hc d hd
    rcases List.eq_nil_or_concat cs with h0 | ⟨ini, l, h0⟩
    · rw [h0] at hd; cases hd
    · have h0 : cs = ini ++ [l] := by simpa using h0
      subst h0
      have hl : l ≤ c := hc l (by simp)
      have hlc : l ≠ c := fun g => hne (by simp [g])
      rw [List.pairwise_append] at h
      rcases List.mem_append.1 hd with g | g
      · have := h.2.2 d g l (by simp); omega
      · rw [List.mem_singleton.1 g]; omega
theorem foldCh_lt (kw : List ByteArray) (i : Nat) : ∀ (br cs : List Nat), cs.Pairwise (· < ·) → (∀ c ∈ cs, ∀ x ∈ br, c ≤ chAt (wd kw x) i) → br.Pairwise (fun x y => chAt (wd kw x) i ≤ chAt (wd kw y) i) → (br.foldl (fun cs x => addCh cs (chAt (wd kw x) i)) cs).Pairwise (· < ·) := by
  intro br
  induction br with
  | nil => intro cs h _ _; exact h
  | cons x br ih =>
    intro cs h1 h2 h3
    rw [List.pairwise_cons] at h3
    refine ih _ (addCh_lt h1 (fun d hd => h2 d hd x (by simp))) (fun c hc y hy => ?_) h3.2
    rcases (mem_addCh _ _ _).1 hc with g | g
    · exact h2 c g y (by simp [hy])
    · rw [g]; exact h3.1 y hy
theorem chsOf_nodup (kw : List ByteArray) (i : Nat) {br : List Nat} (h : br.Pairwise (fun x y => chAt (wd kw x) i ≤ chAt (wd kw y) i)) : (chsOf kw i br).Nodup := by
  have := foldCh_lt kw i br [] List.Pairwise.nil (fun c hc => by cases hc) h
  exact this.imp (fun h => Nat.ne_of_lt h)
/-- The sign at a place of a list. -/
def chL (l : List UInt8) (i : Nat) : Nat := (l[i]?.map (·.toNat)).getD 0
theorem chL_le : ∀ (i : Nat) (a b : List UInt8), a ≤ b → a.take i = b.take i → i ≤ a.length → i ≤ b.length → chL a i ≤ chL b i := by
  intro i
  induction i with
  | zero =>
    intro a b h _ _ _
    cases a with
    | nil => simp [chL]
    | cons x a =>
      cases b with
      | nil => exact absurd h (by simp)
      | cons y b =>
        rw [List.cons_le_cons_iff] at h
        simp only [chL, List.getElem?_cons_zero, Option.map_some, Option.getD_some]
        rcases h with h | ⟨h, _⟩
        · have := UInt8.lt_iff_toNat_lt.1 h; omega
        · rw [h]; exact Nat.le_refl _
  | succ i ih =>
    intro a b h he ha hb
    cases a with
    | nil => simp at ha
    | cons x a =>
      cases b with
      | nil => simp at hb
      | cons y b =>
        rw [List.cons_le_cons_iff] at h
        simp only [List.take_succ_cons, List.cons.injEq] at he
        obtain ⟨rfl, he⟩ := he
        have h2 : a ≤ b := by
          rcases h with h | ⟨_, h⟩
          · exact absurd h (by simp)
          · exact h
        have := ih a b h2 he (by simpa using ha) (by simpa using hb)
        simpa [chL] using this
theorem chAt_chL (s : ByteArray) (i : Nat) : chAt s i = chL s.data.toList i := by
  unfold chAt chL
  by_cases h : i < s.size
  · have h2 : i < s.data.size := h
    rw [if_pos h, Array.getElem?_toList, Array.getElem?_eq_getElem h2]
    show (s.data[i]!).toNat = _
    rw [getElem!_pos s.data i h2]
    rfl
  · have h2 : ¬ i < s.data.size := h
    rw [if_neg h, Array.getElem?_toList, Array.getElem?_eq_none (by omega)]
    rfl
/-- u begins as s does, for t signs. -/
def pre (s : ByteArray) (t : Nat) (u : ByteArray) : Prop := t ≤ u.size ∧ ∀ i, i < t → u.get! i = s.get! i
instance (s : ByteArray) (t : Nat) (u : ByteArray) : Decidable (pre s t u) := by unfold pre; infer_instance
def brs (kw : List ByteArray) (s : ByteArray) (t : Nat) : List Nat := (List.range kw.length).filter (fun x => decide (pre s t (wd kw x)))
theorem brs_zero (kw : List ByteArray) (s : ByteArray) : brs kw s 0 = List.range kw.length := by
  unfold brs
  rw [List.filter_eq_self]
  intro x _
  exact decide_eq_true ⟨Nat.zero_le _, fun i h => by omega⟩
theorem pre_succ (s u : ByteArray) (t : Nat) (hz : chAt s t ≠ 0) : pre s (t + 1) u ↔ pre s t u ∧ chAt u t = chAt s t := by
  have hs : t < s.size := by unfold chAt at hz; split at hz; assumption; omega
  have h1 : chAt s t = (s.get! t).toNat := by unfold chAt; rw [if_pos hs]
  constructor
  · rintro ⟨a, b⟩
    refine ⟨⟨by omega, fun i hi => b i (by omega)⟩, ?_⟩
    unfold chAt
    rw [if_pos (by omega), if_pos hs, b t (by omega)]
  · rintro ⟨⟨a, b⟩, c⟩
    have hu : t < u.size := by
      rw [← c] at hz
      unfold chAt at hz; split at hz; assumption; omega
    refine ⟨by omega, fun i hi => ?_⟩
    rcases Nat.lt_or_ge i t with g | g
    · exact b i g
    · obtain rfl : i = t := by omega
      unfold chAt at c
      rw [if_pos hu, if_pos hs] at c
      exact UInt8.toNat_inj.1 c
theorem brs_succ (kw : List ByteArray) (s : ByteArray) (t : Nat) (hz : chAt s t ≠ 0) : brs kw s (t + 1) = sub kw t (brs kw s t) (chAt s t) := by
  unfold brs sub
  rw [List.filter_filter]
  apply List.filter_congr
  intro x _
  have h1 := pre_succ s (wd kw x) t hz
  rw [Bool.eq_iff_iff]
  simp only [decide_eq_true_eq, Bool.and_eq_true]
  rw [h1]
  exact ⟨fun h => ⟨h.2, h.1⟩, fun h => ⟨h.2, h.1⟩⟩
/-- Sorted words, each once. -/
def Srt (kw : List ByteArray) : Prop := kw.Pairwise (fun a b => a.data.toList ≤ b.data.toList)
theorem wd_get (kw : List ByteArray) {x : Nat} (h : x < kw.length) : wd kw x = kw[x] := by
  unfold wd
  rw [List.getD_eq_getElem?_getD, List.getElem?_eq_getElem h]; rfl
theorem take_of_agree (a b : ByteArray) (i : Nat) (ha : i ≤ a.size) (hb : i ≤ b.size) (h : ∀ j, j < i → a.get! j = b.get! j) : a.data.toList.take i = b.data.toList.take i := by
  apply List.ext_getElem?
  intro j
  rw [List.getElem?_take, List.getElem?_take]
  by_cases hj : j < i
  · rw [if_pos hj, if_pos hj, Array.getElem?_toList, Array.getElem?_toList]
    have h1 : j < a.data.size := by have : a.size = a.data.size := rfl; omega
    have h2 : j < b.data.size := by have : b.size = b.data.size := rfl; omega
    rw [Array.getElem?_eq_getElem h1, Array.getElem?_eq_getElem h2]
    have := h j hj
    have e1 : a.get! j = a.data[j] := by show a.data[j]! = _; rw [getElem!_pos a.data j h1]
    have e2 : b.get! j = b.data[j] := by show b.data[j]! = _; rw [getElem!_pos b.data j h2]
    rw [← e1, ← e2, this]
  · rw [if_neg hj, if_neg hj]
/-- Words that agree ahead of place i: their signs there rise. -/
theorem sorted_at (kw : List ByteArray) (hs : Srt kw) (i : Nat) (br : List Nat) (hb : br.Pairwise (· < ·)) (hx : ∀ x ∈ br, x < kw.length ∧ i ≤ (wd kw x).size) (hag : ∀ x ∈ br, ∀ y ∈ br, ∀ j, j < i → (wd kw x).get! j = (wd kw y).get! j) : br.Pairwise (fun x y => chAt (wd kw x) i ≤ chAt (wd kw y) i) := by
  refine List.Pairwise.imp_of_mem (fun {x y} mx my hlt => ?_) hb
  rw [chAt_chL, chAt_chL]
  have h1 := (hx x mx).1
  have h2 := (hx y my).1
  have hle : (wd kw x).data.toList ≤ (wd kw y).data.toList := by
    rw [wd_get kw h1, wd_get kw h2]
    exact List.pairwise_iff_getElem.1 hs x y h1 h2 hlt
  exact chL_le i _ _ hle (take_of_agree _ _ i (hx x mx).2 (hx y my).2 (hag x mx y my)) (by simpa using (hx x mx).2) (by simpa using (hx y my).2)
theorem fit_of (kw : List ByteArray) (hs : Srt kw) (M : Nat) (hM : ∀ s ∈ kw, s.size ≤ M) (hnz : ∀ s ∈ kw, ∀ j, j < s.size → (s.get! j).toNat ≠ 0) : ∀ (k i : Nat) (br : List Nat), br ≠ [] → br.Pairwise (· < ·) → (∀ x ∈ br, x < kw.length ∧ i ≤ (wd kw x).size) → (∀ x ∈ br, ∀ y ∈ br, ∀ j, j < i → (wd kw x).get! j = (wd kw y).get! j) → M + 1 ≤ k + i → Fit kw k i br := by
  intro k
  induction k with
  | zero =>
    intro i br h1 h2 h3 h4 h5
    obtain ⟨x, hx⟩ := List.exists_mem_of_ne_nil br h1
    have := h3 x hx
    have h6 := hM _ (show wd kw x ∈ kw by rw [wd_get kw this.1]; exact List.getElem_mem _)
    omega
  | succ k ih =>
    intro i br h1 h2 h3 h4 h5
    have hp := sorted_at kw hs i br h2 h3 h4
    refine ⟨h1, h3, chsOf_nodup kw i hp, fun h0 => ?_, fun c hc hc0 => ?_⟩
    · obtain ⟨x, hx, hx0⟩ := (mem_chsOf kw i br 0).1 h0
      cases br with
      | nil => exact absurd rfl h1
      | cons y r =>
        refine ⟨y, r, rfl, ?_⟩
        rcases List.mem_cons.1 hx with e | e
        · rw [← e]; exact hx0
        · have := (List.pairwise_cons.1 hp).1 x e
          omega
    · have hch : ∀ x ∈ sub kw i br c, x ∈ br ∧ chAt (wd kw x) i = c := fun x hx => ⟨(List.mem_filter.1 hx).1, of_decide_eq_true (List.mem_filter.1 hx).2⟩
      have hsz : ∀ x ∈ sub kw i br c, i < (wd kw x).size := fun x hx => by
        have := (hch x hx).2
        unfold chAt at this
        split at this
        · assumption
        · omega
      refine ih (i + 1) (sub kw i br c) ?_ (h2.sublist List.filter_sublist) (fun x hx => ⟨(h3 x (hch x hx).1).1, hsz x hx⟩) (fun x hx y hy j hj => ?_) (by omega)
      · intro e
        obtain ⟨x, x1, x2⟩ := (mem_chsOf kw i br c).1 hc
        have : x ∈ sub kw i br c := List.mem_filter.2 ⟨x1, decide_eq_true x2⟩
        rw [e] at this; cases this
      · rcases Nat.lt_or_ge j i with g | g
        · exact h4 x (hch x hx).1 y (hch y hy).1 j g
        · obtain rfl : j = i := by omega
          have e1 := (hch x hx).2
          have e2 := (hch y hy).2
          unfold chAt at e1 e2
          rw [if_pos (hsz x hx)] at e1
          rw [if_pos (hsz y hy)] at e2
          exact UInt8.toNat_inj.1 (by omega)
end Go.Proofs.Ytddcjmdcpkmnjab.Da
namespace Go.Proofs.Ytddcjmdcpkmnjab.Da
instance : LawfulBEq ByteArray where
  eq_of_beq h := (Go.MapKept.bytes_beq _ _).1 h
  rfl := (Go.MapKept.bytes_beq _ _).2 rfl
/-- A word's number: that of its place. -/
def idOf (kw : List ByteArray) (ids : List Int) (u : ByteArray) : Int := ids.getD (kw.idxOf u) 0
/-- The first m cells hold the words, with their numbers. -/
structure TrieOk (kw : List ByteArray) (ids : List Int) (m : Nat) (B C : Nat → Int) : Prop where
  ex : ∃ (n : Nat) (F : Nat → Prop) (k : Nat) (kw' : List ByteArray) (ids' : List Int), kw'.Perm kw ∧ m ≤ n ∧ n ≤ 60000 ∧ (∀ r, m ≤ r → r < n → C r < 0) ∧ Node n F B C kw' ids' k 0 0 (List.range kw'.length) ∧ Fit kw' k 0 (List.range kw'.length) ∧ kw'.Nodup ∧ (∀ x, x < kw'.length → ids'.getD x 0 = idOf kw ids (wd kw' x)) ∧ (∀ x ∈ ids, 0 ≤ x ∧ x ≤ 1100000) ∧ ids.length = kw.length ∧ 0 < m ∧ (∀ u ∈ kw, ∀ j, j < u.size → (u.get! j).toNat ≠ 0)
  cb : ∀ r, r < m → -60000 ≤ C r ∧ C r ≤ 60000
/-- Cell p stands for the first t signs of s. -/
structure On (kw : List ByteArray) (ids : List Int) (m : Nat) (B C : Nat → Int) (s : ByteArray) (t p : Nat) : Prop where
  ex : ∃ (n : Nat) (F : Nat → Prop) (k : Nat) (kw' : List ByteArray) (ids' : List Int), kw'.Perm kw ∧ m ≤ n ∧ n ≤ 60000 ∧ (∀ r, m ≤ r → r < n → C r < 0) ∧ Node n F B C kw' ids' k p t (brs kw' s t) ∧ Fit kw' k t (brs kw' s t) ∧ kw'.Nodup ∧ (∀ x, x < kw'.length → ids'.getD x 0 = idOf kw ids (wd kw' x)) ∧ p < m ∧ (∀ x ∈ ids, 0 ≤ x ∧ x ≤ 1100000) ∧ ids.length = kw.length ∧ (∀ u ∈ kw, ∀ j, j < u.size → (u.get! j).toNat ≠ 0)
theorem On.start {kw : List ByteArray} {ids : List Int} {m : Nat} {B C : Nat → Int} (h : TrieOk kw ids m B C) (s : ByteArray) : On kw ids m B C s 0 0 := by
  obtain ⟨n, F, k, kw', ids', h1, h2, h3, h4, h5, h6, h7, h8, h9, h10, h11, h12⟩ := h.ex
  exact ⟨n, F, k, kw', ids', h1, h2, h3, h4, by rw [brs_zero]; exact h5, by rw [brs_zero]; exact h6, h7, h8, h11, h9, h10, h12⟩
theorem On.lt {kw : List ByteArray} {ids : List Int} {m : Nat} {B C : Nat → Int} {s : ByteArray} {t p : Nat} (h : On kw ids m B C s t p) : p < m := by
  obtain ⟨n, F, k, kw', ids', h1, h2, h3, h4, h5, h6, h7, h8, h9, h10⟩ := h.ex
  exact h9
theorem mem_brs {kw : List ByteArray} {s : ByteArray} {t x : Nat} : x ∈ brs kw s t ↔ x < kw.length ∧ pre s t (wd kw x) := by
  unfold brs
  rw [List.mem_filter, List.mem_range, decide_eq_true_eq]
/-- One sign further. -/
theorem On.step {kw : List ByteArray} {ids : List Int} {m : Nat} {B C : Nat → Int} {s : ByteArray} {t p : Nat} (h : On kw ids m B C s t p) (hz : chAt s t ≠ 0) :
    ∃ base : Nat, B p = (base : Int) ∧ 1 ≤ base ∧ base < 60000 ∧
      ((∃ u ∈ kw, pre s (t + 1) u) → base + chAt s t < m ∧ C (base + chAt s t) = (p : Int) ∧ On kw ids m B C s (t + 1) (base + chAt s t)) ∧
      ((¬ ∃ u ∈ kw, pre s (t + 1) u) → ¬ (base + chAt s t < m ∧ C (base + chAt s t) = (p : Int))) := by
  obtain ⟨n, F, k, kw', ids', h1, h2, h3, h4, h5, h6, h7, h8, h9, h10, h11, h12⟩ := h.ex
  have hex : (∃ u ∈ kw, pre s (t + 1) u) ↔ chAt s t ∈ chsOf kw' t (brs kw' s t) := by
    rw [mem_chsOf]
    constructor
    · rintro ⟨u, hu, hp⟩
      have hu' := h1.mem_iff.2 hu
      obtain ⟨x, hx, hxu⟩ := List.getElem_of_mem hu'
      have hw : wd kw' x = u := by rw [wd_get kw' hx, hxu]
      have := (pre_succ s u t hz).1 hp
      exact ⟨x, mem_brs.2 ⟨hx, by rw [hw]; exact this.1⟩, by rw [hw]; exact this.2⟩
    · rintro ⟨x, hx, hc⟩
      obtain ⟨hx1, hx2⟩ := mem_brs.1 hx
      refine ⟨wd kw' x, h1.mem_iff.1 ?_, (pre_succ s _ t hz).2 ⟨hx2, hc⟩⟩
      rw [wd_get kw' hx1]; exact List.getElem_mem _
  cases k with
  | zero => exact h5.elim
  | succ k =>
    obtain ⟨base, b1, b2, b3⟩ := h5
    have hb : base < 60000 := by
      obtain ⟨x, hx⟩ := List.exists_mem_of_ne_nil _ h6.1
      have := ((b3 _ (chAt_le (wd kw' x) t)).2 ((mem_chsOf _ _ _ _).2 ⟨x, hx, rfl⟩)).1
      omega
    refine ⟨base, b1, b2, hb, fun hu => ?_, fun hu => ?_⟩
    · have hm := hex.1 hu
      obtain ⟨a1, a2, a3, a4, a5⟩ := (b3 _ (chAt_le s t)).2 hm
      have hlt : base + chAt s t < m := by
        rcases Nat.lt_or_ge (base + chAt s t) m with g | g
        · exact g
        · have := h4 _ g a1; omega
      refine ⟨hlt, a2, n, F, k, kw', ids', h1, h2, h3, h4, ?_, ?_, h7, h8, hlt, h10, h11, h12⟩
      · rw [brs_succ kw' s t hz]; exact a5 hz
      · rw [brs_succ kw' s t hz]; exact h6.2.2.2.2 _ hm hz
    · rintro ⟨g1, g2⟩
      exact (b3 _ (chAt_le s t)).1 (fun hm => hu (hex.2 hm)) (by omega) g2
theorem ext_bytes {a b : ByteArray} (h1 : a.size = b.size) (h2 : ∀ i, i < a.size → a.get! i = b.get! i) : a = b := by
  have : a.data = b.data := by
    apply Array.ext h1
    intro i hi hj
    have := h2 i hi
    have e1 : a.get! i = a.data[i] := by show a.data[i]! = _; rw [getElem!_pos a.data i hi]
    have e2 : b.get! i = b.data[i] := by show b.data[i]! = _; rw [getElem!_pos b.data i hj]
    rw [← e1, ← e2, this]
  cases a; cases b; simpa using this
theorem extract_get (s : ByteArray) (t i : Nat) (h : i < t) (ht : t ≤ s.size) : (s.extract 0 t).get! i = s.get! i := by
  show (s.extract 0 t).data[i]! = s.data[i]!
  rw [ByteArray.data_extract]
  have h1 : i < s.data.size := by have : s.size = s.data.size := rfl; omega
  have h2 : i < (s.data.extract 0 t).size := by rw [Array.size_extract]; have : s.size = s.data.size := rfl; omega
  rw [getElem!_pos _ i h2, getElem!_pos _ i h1, Array.getElem_extract]
  congr 1
  omega
theorem pre_whole (s : ByteArray) (t : Nat) (ht : t ≤ s.size) (u : ByteArray) : (pre s t u ∧ u.size = t) ↔ u = s.extract 0 t := by
  have hsz : (s.extract 0 t).size = t := by rw [ByteArray.size_extract]; omega
  constructor
  · rintro ⟨⟨h1, h2⟩, h3⟩
    refine ext_bytes (by rw [hsz, h3]) (fun i hi => ?_)
    rw [extract_get s t i (by omega) ht]
    exact h2 i (by omega)
  · rintro rfl
    exact ⟨⟨by omega, fun i hi => extract_get s t i hi ht⟩, hsz⟩
/-- Whether the first t signs are a word. -/
theorem On.term {kw : List ByteArray} {ids : List Int} {m : Nat} {B C : Nat → Int} {s : ByteArray} {t p : Nat} (h : On kw ids m B C s t p) (ht : t ≤ s.size) :
    ∃ base : Nat, B p = (base : Int) ∧ 1 ≤ base ∧ base < 60000 ∧
      (s.extract 0 t ∈ kw → base < m ∧ C base = (p : Int) ∧ B base = -(idOf kw ids (s.extract 0 t)) ∧ 0 ≤ idOf kw ids (s.extract 0 t) ∧ idOf kw ids (s.extract 0 t) ≤ 1100000) ∧
      (s.extract 0 t ∉ kw → ¬ (base < m ∧ C base = (p : Int))) := by
  obtain ⟨n, F, k, kw', ids', h1, h2, h3, h4, h5, h6, h7, h8, h9, h10, h11, h12⟩ := h.ex
  have hzero : ∀ x, x < kw'.length → pre s t (wd kw' x) → chAt (wd kw' x) t = 0 → wd kw' x = s.extract 0 t := by
    intro x hx1 hx2 hc
    refine (pre_whole s t ht _).1 ⟨hx2, ?_⟩
    have hm : wd kw' x ∈ kw := h1.mem_iff.1 (by rw [wd_get kw' hx1]; exact List.getElem_mem _)
    unfold chAt at hc
    split at hc
    · exact absurd hc (h12 _ hm t (by assumption))
    · have := hx2.1; omega
  have hex : s.extract 0 t ∈ kw ↔ 0 ∈ chsOf kw' t (brs kw' s t) := by
    rw [mem_chsOf]
    constructor
    · intro hu
      have hu' := h1.mem_iff.2 hu
      obtain ⟨x, hx, hxu⟩ := List.getElem_of_mem hu'
      have hw : wd kw' x = s.extract 0 t := by rw [wd_get kw' hx, hxu]
      obtain ⟨q1, q2⟩ := (pre_whole s t ht _).2 hw
      refine ⟨x, mem_brs.2 ⟨hx, q1⟩, ?_⟩
      unfold chAt; rw [if_neg (by omega)]
    · rintro ⟨x, hx, hc⟩
      obtain ⟨hx1, hx2⟩ := mem_brs.1 hx
      rw [← hzero x hx1 hx2 hc]
      exact h1.mem_iff.1 (by rw [wd_get kw' hx1]; exact List.getElem_mem _)
  cases k with
  | zero => exact h5.elim
  | succ k =>
    obtain ⟨base, b1, b2, b3⟩ := h5
    have hb : base < 60000 := by
      obtain ⟨x, hx⟩ := List.exists_mem_of_ne_nil _ h6.1
      have := ((b3 _ (chAt_le (wd kw' x) t)).2 ((mem_chsOf _ _ _ _).2 ⟨x, hx, rfl⟩)).1
      omega
    refine ⟨base, b1, b2, hb, fun hu => ?_, fun hu => ?_⟩
    · have hm := hex.1 hu
      obtain ⟨a1, a2, a3, a4, a5⟩ := (b3 0 (by omega)).2 hm
      rw [Nat.add_zero] at a1 a2 a4
      have hlt : base < m := by
        rcases Nat.lt_or_ge base m with g | g
        · exact g
        · have := h4 _ g a1; omega
      obtain ⟨x, r, e1, e2⟩ := h6.2.2.2.1 hm
      have hxm : x ∈ brs kw' s t := by rw [e1]; simp
      obtain ⟨hx1, hx2⟩ := mem_brs.1 hxm
      have hw := hzero x hx1 hx2 e2
      have hid := h8 x hx1
      rw [hw] at hid
      have hB := a4 rfl
      rw [e1, List.headD_cons, hid] at hB
      have hbd : 0 ≤ idOf kw ids (s.extract 0 t) ∧ idOf kw ids (s.extract 0 t) ≤ 1100000 := by
        unfold idOf
        rw [List.getD_eq_getElem?_getD]
        cases hg : ids[kw.idxOf (s.extract 0 t)]? with
        | none => simp
        | some y => exact h10 y (List.mem_of_getElem? hg)
      exact ⟨hlt, a2, hB, hbd.1, hbd.2⟩
    · rintro ⟨g1, g2⟩
      exact (b3 0 (by omega)).1 (fun hm => hu (hex.2 hm)) (by omega) g2
end Go.Proofs.Ytddcjmdcpkmnjab.Da
namespace Go.Proofs.Ytddcjmdcpkmnjab.Da
open Go.RowKit Go.Proofs.Ytddcjmdcpkmnjab.Gn

/-- The cells of n pairs. -/
def row (n : Nat) (B C : Nat → Int) : Array Value := Array.ofFn (n := n * 2) fun i => .int .i32 (if i.val % 2 = 0 then B (i.val / 2) else C (i.val / 2))
/-- The variable at block v holds the slice of block b, whose cells are n pairs. -/
structure At (w : World) (v b n : Nat) (B C : Nat → Int) : Prop where
  ne : v ≠ b
  var : w.heap[v]? = some (.cells #[.slice (some ⟨b, 0, none⟩) n n] 51 (0, 0))
  row : w.heap[b]? = some (.cells (Da.row n B C) 70 (0, 0))

theorem row_size (n : Nat) (B C : Nat → Int) : (Da.row n B C).size = n * 2 := by simp [Da.row]
theorem row_base (n : Nat) (B C : Nat → Int) (p : Nat) (h : p < n) : (Da.row n B C)[p * 2]? = some (.int .i32 (B p)) := by
  simp [Da.row, show p * 2 < n * 2 by omega]
theorem row_check (n : Nat) (B C : Nat → Int) (p : Nat) (h : p < n) : (Da.row n B C)[p * 2 + 1]? = some (.int .i32 (C p)) := by
  have h1 : (p * 2 + 1) % 2 = 1 := by omega
  have h2 : (p * 2 + 1) / 2 = p := by omega
  simp [Da.row, show p * 2 + 1 < n * 2 by omega, h1, h2]
theorem At.cell {w : World} {v b n : Nat} {B C : Nat → Int} (h : At w v b n B C) : w.cell? ⟨v, 0, none⟩ = some (.slice (some ⟨b, 0, none⟩) n n) := by
  simp [World.cell?, h.var]
theorem At.base {w : World} {v b n : Nat} {B C : Nat → Int} (h : At w v b n B C) (p : Nat) (hp : p < n) : w.cell? ⟨b, p * 2, none⟩ = some (.int .i32 (B p)) := by
  simp [World.cell?, h.row, row_base n B C p hp]
theorem At.check {w : World} {v b n : Nat} {B C : Nat → Int} (h : At w v b n B C) (p : Nat) (hp : p < n) : w.cell? ⟨b, p * 2 + 1, none⟩ = some (.int .i32 (C p)) := by
  simp [World.cell?, h.row, row_check n B C p hp]
theorem At.frozen {w : World} {v b n : Nat} {B C : Nat → Int} (h : At w v b n B C) (o : Nat) (s : Option Nat) : w.frozen? ⟨b, o, s⟩ = false := by
  simp [World.frozen?, h.row]
theorem row_get (n : Nat) (B C : Nat → Int) (i : Nat) : (Da.row n B C)[i]? = if i < n * 2 then some (.int .i32 (if i % 2 = 0 then B (i / 2) else C (i / 2))) else none := by
  by_cases h : i < n * 2
  · rw [if_pos h]; simp [Da.row, h]
  · rw [if_neg h]; simp [Da.row]; omega
theorem row_setBase (n : Nat) (B C : Nat → Int) (p : Nat) (x : Int) : (Da.row n B C).setIfInBounds (p * 2) (.int .i32 x) = Da.row n (upd B p x) C := by
  apply Array.ext_getElem?
  intro i
  rw [Array.getElem?_setIfInBounds, row_get, row_get, row_size]
  by_cases e : p * 2 = i
  · subst e
    simp [upd]
  · rw [if_neg e]
    by_cases e2 : i % 2 = 0
    · rw [if_pos e2, if_pos e2, upd_other _ _ (by omega)]
    · rw [if_neg e2, if_neg e2]
theorem row_setCheck (n : Nat) (B C : Nat → Int) (p : Nat) (x : Int) : (Da.row n B C).setIfInBounds (p * 2 + 1) (.int .i32 x) = Da.row n B (upd C p x) := by
  apply Array.ext_getElem?
  intro i
  rw [Array.getElem?_setIfInBounds, row_get, row_get, row_size]
  by_cases e : p * 2 + 1 = i
  · subst e
    have h1 : (p * 2 + 1) % 2 = 1 := by omega
    have h2 : (p * 2 + 1) / 2 = p := by omega
    simp [upd, h1, h2]
  · rw [if_neg e]
    by_cases e2 : i % 2 = 0
    · rw [if_pos e2, if_pos e2]
    · rw [if_neg e2, if_neg e2, upd_other _ _ (by omega)]
theorem At.setBase {w : World} {v b n : Nat} {B C : Nat → Int} (h : At w v b n B C) (p : Nat) (x : Int) : At (w.setCell ⟨b, p * 2, none⟩ (.int .i32 x)) v b n (upd B p x) C :=
  ⟨h.ne, (Below.heap_setCell w _ _ v h.ne).trans h.var, by rw [heap_put w ⟨b, p * 2, none⟩ _ _ _ _ h.row rfl, row_setBase]⟩
theorem At.setCheck {w : World} {v b n : Nat} {B C : Nat → Int} (h : At w v b n B C) (p : Nat) (x : Int) : At (w.setCell ⟨b, p * 2 + 1, none⟩ (.int .i32 x)) v b n B (upd C p x) :=
  ⟨h.ne, (Below.heap_setCell w _ _ v h.ne).trans h.var, by rw [heap_put w ⟨b, p * 2 + 1, none⟩ _ _ _ _ h.row rfl, row_setCheck]⟩
theorem At.drew {w : World} {v b n : Nat} {B C : Nat → Int} (h : At w v b n B C) : At w.drew v b n B C := ⟨h.ne, h.var, h.row⟩
theorem At.drewN {w : World} {v b n : Nat} {B C : Nat → Int} (h : At w v b n B C) (k : Nat) : At (w.drewN k) v b n B C := ⟨h.ne, h.var, h.row⟩
theorem At.chg {S : List Nat} {w w' : World} {v b n : Nat} {B C : Nat → Int} (h : At w v b n B C) (hc : Chg S w w') (h1 : v ∉ S) (h2 : b ∉ S) : At w' v b n B C :=
  ⟨h.ne, (hc.block v (Array.getElem?_eq_some_iff.1 h.var).1 h1).trans h.var, (hc.block b (Array.getElem?_eq_some_iff.1 h.row).1 h2).trans h.row⟩
theorem At.lt {w : World} {v b n : Nat} {B C : Nat → Int} (h : At w v b n B C) : v < w.heap.size ∧ b < w.heap.size := ⟨(Array.getElem?_eq_some_iff.1 h.var).1, (Array.getElem?_eq_some_iff.1 h.row).1⟩
end Go.Proofs.Ytddcjmdcpkmnjab.Da
namespace Go.Proofs.Ytddcjmdcpkmnjab.Da
open Go.RowKit Go.Proofs.YtddcjmdcpkmnjabW.PrintWords Go.Proofs.Ytddcjmdcpkmnjab.Gn
theorem wrap_neg {x : Int} (h0 : 0 ≤ x) (h : x ≤ 2000000) : IntKind.i64.wrap (-x) = -x := by simp [IntKind.wrap, IntKind.signed, IntKind.bits]; omega
theorem wrap32 {x : Int} (h0 : 0 ≤ x) (h : x ≤ 2000000) : IntKind.i32.wrap x = x := by simp [IntKind.wrap, IntKind.signed, IntKind.bits]; omega
theorem wrap32n {x : Int} (h0 : 0 ≤ x) (h : x ≤ 2000000) : IntKind.i32.wrap (-x) = -x := by simp [IntKind.wrap, IntKind.signed, IntKind.bits]; omega
theorem still_tail {P : Program} {id : Nat} {Q : Exit → Act → World → Prop} {a : Act} {w : World} {l : List Oper} (n : Nat) (hm : P.follows .mixedOrders = true) (hB : Region.lexTailB .any l.toArray n = true)
    (h : ∀ w2, w2 = w.drew → wpStill P l.toArray w2 (fun a' => wpList P l.toArray Q (l.drop n) a' w2) (l.take n) a) : (Code.region id l.toArray true).wp P Q a w :=
  wp_region_still_tail n hm hB (h _ rfl)
set_option maxHeartbeats 1000000 in
set_option maxRecDepth 100000 in
theorem setCheck_calls (w : World) (v b n : Nat) (B C : Nat → Int) (p q : Nat) (h : At w v b n B C) (hp : p < n) (hp1 : 1 ≤ p) (hq : q < 100000) (hn : n < 100000) (pr nx : Nat) (hpr : B p = -(pr : Int)) (hnx : C p = -(nx : Int)) (hpr2 : pr < n) (hnx2 : nx < n) (hne : nx ≠ pr) (hpp : pr ≠ p) (hpn : nx ≠ p) (c0 : Nat) (hh : C 0 = -(c0 : Int)) (hc0 : c0 < n) :
    Calls Try.prog 56 #[.pointer (some ⟨v, 0, none⟩), .int .i64 p, .int .i64 q] w fun e w' => e = .returned (.tuple #[]) ∧ At w' v b n (upd B nx (B p)) (upd (upd (head C p (C p)) pr (C p)) p q) ∧ Chg [b] w w' := by
  have H := Aside0.mk h
  have h0 := h.check 0 (by omega)
  have h1 := h.cell
  have h2 := h.base p hp
  have h3 := h.check p hp
  have HPR := Aside0.mk hpr
  have HNX := Aside0.mk hnx
  have HH := Aside0.mk hh
  rw [hpr] at h2
  rw [hnx] at h3
  rw [hh] at h0
  have h4 : decide ((0:Int) ≤ (p:Int)) = true := decide_eq_true (by omega)
  have h5 : decide ((p:Int) < (n:Int)) = true := decide_eq_true (by omega)
  have h6 : decide (p < n) = true := decide_eq_true (by omega)
  have h7 : (-(pr:Int) == -(nx:Int)) = false := beq_eq_false_iff_ne.2 (by omega)
  have h71 : ((pr:Int) == (nx:Int)) = false := beq_eq_false_iff_ne.2 (by omega)
  have h72 : (pr == nx) = false := beq_eq_false_iff_ne.2 (by omega)
  have h8 := wrap_neg (x := p) (by omega) (by omega)
  have h9 : decide ((pr:Int) < (n:Int)) = true := decide_eq_true (by omega)
  have h10 : decide ((nx:Int) < (n:Int)) = true := decide_eq_true (by omega)
  have h11 : IntKind.i32.wrap (q:Int) = q := wrap32 (by omega) (by omega)
  have h12 : decide ((0:Int) < (n:Int)) = true := decide_eq_true (by omega)
  have h13 : 0 < n := by omega
  have HO := Aside0.mk (Chg.refl [b] w)
  clear h hpr hnx hh
  by_cases hc : c0 = p
  case pos =>
    have g1 : (-(p:Int) == -(c0:Int)) = true := beq_iff_eq.2 (by omega)
    have g2 : ((p:Int) == (c0:Int)) = true := beq_iff_eq.2 (by omega)
    have g3 : (p == c0) = true := beq_iff_eq.2 (by omega)
    have HHD := Aside0.mk (show head C p (C p) = upd C 0 (C p) from if_pos (by rw [HH.out, hc]))
    go_enter Try.func56, Try.ntmps56
    go_wp2_with fail
    go_quiet (fail)
    go_wp2_with fail
    refine still_tail 12 (by kernel_rfl) (by kernel_rfl) ?_
    intro w2 e2
    have H2 : Aside0 (At w2 v b n B C) := ⟨by rw [e2]; exact (H.out.drewN _).drew⟩
    have HO2 : Aside0 (Chg [b] w w2) := ⟨by rw [e2]; exact (HO.out.drewN _).drew⟩
    clear e2 H HO h1 h2 h3 h0 g1 g2 g3
    have h1 := H2.out.cell
    have h3 := H2.out.check p hp
    rw [HNX.out] at h3
    have h0 := H2.out.check 0 (by omega)
    rw [HH.out] at h0
    have f0 := H2.out.frozen 1 none
    simp only [List.take_succ_cons, List.take_zero, List.drop_succ_cons, List.drop_zero]
    repeat still_step
    refine wpStill_nil ?_
    go_wp2_with fail
    refine still_tail 13 (by kernel_rfl) (by kernel_rfl) ?_
    intro w3 e2
    have H3 : Aside0 (At w3 v b n B (upd C 0 (C p))) := ⟨by rw [e2, HNX.out]; exact (H2.out.setCheck 0 _).drew⟩
    have HO3 : Aside0 (Chg [b] w w3) := ⟨by rw [e2]; exact (HO2.out.setCell (.inl (by simp)) _).drew⟩
    clear e2 H2 HO2 h1 h3 h0 f0
    have h1 := H3.out.cell
    have h2 := H3.out.base p hp
    rw [HPR.out] at h2
    have f0 := H3.out.frozen (nx * 2) none
    have h3 := H3.out.base nx hnx2
    simp only [List.take_succ_cons, List.take_zero, List.drop_succ_cons, List.drop_zero]
    repeat still_step
    refine wpStill_nil ?_
    go_wp2_with fail
    refine still_tail 13 (by kernel_rfl) (by kernel_rfl) ?_
    intro w4 e2
    have H4 : Aside0 (At w4 v b n (upd B nx (B p)) (upd C 0 (C p))) := ⟨by rw [e2, HPR.out]; exact (H3.out.setBase nx _).drew⟩
    have HO4 : Aside0 (Chg [b] w w4) := ⟨by rw [e2]; exact (HO3.out.setCell (.inl (by simp)) _).drew⟩
    clear e2 H3 HO3 h1 h2 h3 f0
    have h1 := H4.out.cell
    have h2 := H4.out.check p hp
    rw [upd_other _ _ (by omega), HNX.out] at h2
    have f0 := H4.out.frozen (pr * 2 + 1) none
    have f1 := H4.out.frozen (p * 2 + 1) none
    have h3 := H4.out.check pr hpr2
    simp only [List.take_succ_cons, List.take_zero, List.drop_succ_cons, List.drop_zero]
    repeat still_step
    refine wpStill_nil ?_
    go_wp2_with fail
    go_end0
    exact ⟨rfl, by rw [HHD.out, HNX.out]; rw [HNX.out] at H4; exact (H4.out.setCheck pr _).setCheck p _, (HO4.out.setCell (.inl (by simp)) _).setCell (.inl (by simp)) _⟩
  case neg =>
    have g1 : (-(p:Int) == -(c0:Int)) = false := beq_eq_false_iff_ne.2 (by omega)
    have g2 : ((p:Int) == (c0:Int)) = false := beq_eq_false_iff_ne.2 (by omega)
    have g3 : (p == c0) = false := beq_eq_false_iff_ne.2 (by omega)
    have HHD := Aside0.mk (show head C p (C p) = C from if_neg (by rw [HH.out]; omega))
    go_enter Try.func56, Try.ntmps56
    go_wp2_with fail
    go_quiet (fail)
    go_wp2_with fail
    refine still_tail 13 (by kernel_rfl) (by kernel_rfl) ?_
    intro w3 e2
    have H3 : Aside0 (At w3 v b n B C) := ⟨by rw [e2]; exact (H.out.drewN _).drew⟩
    have HO3 : Aside0 (Chg [b] w w3) := ⟨by rw [e2]; exact (HO.out.drewN _).drew⟩
    clear e2 H HO h1 h2 h3 h0 g1 g2 g3
    have h1 := H3.out.cell
    have h2 := H3.out.base p hp
    rw [HPR.out] at h2
    have f0 := H3.out.frozen (nx * 2) none
    have h3 := H3.out.base nx hnx2
    simp only [List.take_succ_cons, List.take_zero, List.drop_succ_cons, List.drop_zero]
    repeat still_step
    refine wpStill_nil ?_
    go_wp2_with fail
    refine still_tail 13 (by kernel_rfl) (by kernel_rfl) ?_
    intro w4 e2
    have H4 : Aside0 (At w4 v b n (upd B nx (B p)) C) := ⟨by rw [e2, HPR.out]; exact (H3.out.setBase nx _).drew⟩
    have HO4 : Aside0 (Chg [b] w w4) := ⟨by rw [e2]; exact (HO3.out.setCell (.inl (by simp)) _).drew⟩
    clear e2 H3 HO3 h1 h2 h3 f0
    have h1 := H4.out.cell
    have h2 := H4.out.check p hp
    rw [HNX.out] at h2
    have f0 := H4.out.frozen (pr * 2 + 1) none
    have f1 := H4.out.frozen (p * 2 + 1) none
    have h3 := H4.out.check pr hpr2
    simp only [List.take_succ_cons, List.take_zero, List.drop_succ_cons, List.drop_zero]
    repeat still_step
    refine wpStill_nil ?_
    go_wp2_with fail
    go_end0
    exact ⟨rfl, by rw [HHD.out, HNX.out]; exact (H4.out.setCheck pr _).setCheck p _, (HO4.out.setCell (.inl (by simp)) _).setCell (.inl (by simp)) _⟩
end Go.Proofs.Ytddcjmdcpkmnjab.Da
namespace Go.Proofs.Ytddcjmdcpkmnjab.Da
open Go.RowKit Go.Proofs.YtddcjmdcpkmnjabW.PrintWords Go.Proofs.Ytddcjmdcpkmnjab.Gn
theorem setBase_root (w : World) (v b n : Nat) (B C : Nat → Int) (p : Nat) (x : Int) (h : At w v b n B C) (hp : p = 0) :
    Calls Try.prog 55 #[.pointer (some ⟨v, 0, none⟩), .int .i64 p, .int .i64 x] w fun e w' => e = .returned (.tuple #[]) ∧ w = w' := by
  have h7 : ((p:Int) == 0) = true := beq_iff_eq.2 (by omega)
  have h71 : (p == 0) = true := beq_iff_eq.2 (by omega)
  clear h hp
  go_enter Try.func55, Try.ntmps55
  go_wp2
  refine bodyPost_ret (results_none rfl _ _ _) rfl ?_
  exact ⟨rfl, rfl⟩
set_option maxHeartbeats 1000000 in
set_option maxRecDepth 100000 in
theorem setBase_calls (w : World) (v b n : Nat) (B C : Nat → Int) (p x : Nat) (h : At w v b n B C) (hp : p < n) (hp1 : 1 ≤ p) (hx : x < 100000) (hn : n < 100000) (hu : 0 ≤ C p) :
    Calls Try.prog 55 #[.pointer (some ⟨v, 0, none⟩), .int .i64 p, .int .i64 x] w fun e w' => e = .returned (.tuple #[]) ∧ At w' v b n (upd B p x) C ∧ Chg [b] w w' := by
  have H := Aside0.mk h
  have h1 := h.cell
  have h2 := h.base p hp
  have h3 := h.check p hp
  have f0 := h.frozen (p * 2) none
  have h4 : decide ((0:Int) ≤ (p:Int)) = true := decide_eq_true (by omega)
  have h5 : decide ((p:Int) < (n:Int)) = true := decide_eq_true (by omega)
  have h7 : ((p:Int) == 0) = false := beq_eq_false_iff_ne.2 (by omega)
  have h71 : (p == 0) = false := beq_eq_false_iff_ne.2 (by omega)
  have h8 : decide (C p < 0) = false := decide_eq_false (by omega)
  have h11 : IntKind.i32.wrap (x:Int) = x := wrap32 (by omega) (by omega)
  clear h hp1
  go_enter Try.func55, Try.ntmps55
  go_wp2
  go_end0
  exact ⟨rfl, H.out.setBase p _, (Chg.refl [b] w).setCell (.inl (by simp)) _⟩
end Go.Proofs.Ytddcjmdcpkmnjab.Da
namespace Go.Proofs.Ytddcjmdcpkmnjab.Da
open Go.RowKit Go.Proofs.YtddcjmdcpkmnjabW.PrintWords Go.Proofs.Ytddcjmdcpkmnjab.Gn
def B1 (i : Nat) : Nat → Int := fun r => if r = 0 then 1 else if r < i then -((r : Int) - 1) else 0
def C1 (i : Nat) : Nat → Int := fun r => if r = 0 then -1 else if r < i then -((r : Int) + 1) else 0
def B0 (N : Nat) : Nat → Int := upd (B1 N) 1 (-((N : Int) - 1))
def C0 (N : Nat) : Nat → Int := upd (C1 N) (N - 1) (-1)
theorem B1_succ (i : Nat) (h : 1 ≤ i) : upd (B1 i) i (-((i : Int) - 1)) = B1 (i + 1) := by
  funext r
  unfold upd B1
  by_cases e : r = i
  · subst e; rw [if_pos rfl, if_neg (by omega), if_pos (by omega)]
  · rw [if_neg e]
    by_cases e0 : r = 0
    · rw [if_pos e0, if_pos e0]
    · rw [if_neg e0, if_neg e0]
      by_cases e1 : r < i
      · rw [if_pos e1, if_pos (by omega)]
      · rw [if_neg e1, if_neg (by omega)]
theorem C1_succ (i : Nat) (h : 1 ≤ i) : upd (C1 i) i (-((i : Int) + 1)) = C1 (i + 1) := by
  funext r
  unfold upd C1
  by_cases e : r = i
  · subst e; rw [if_pos rfl, if_neg (by omega), if_pos (by omega)]
  · rw [if_neg e]
    by_cases e0 : r = 0
    · rw [if_pos e0, if_pos e0]
    · rw [if_neg e0, if_neg e0]
      by_cases e1 : r < i
      · rw [if_pos e1, if_pos (by omega)]
      · rw [if_neg e1, if_neg (by omega)]
theorem row_made : madeCells #[.int .i32 0, .int .i32 0] 102400 = row 51200 (fun _ => 0) (fun _ => 0) := by
  apply Array.ext_getElem?
  intro i
  rw [row_get]
  unfold madeCells
  by_cases h : i < 102400
  · rw [if_pos (by omega)]
    rw [Array.getElem?_map, Array.getElem?_range, if_pos h]
    have : i % 2 = 0 ∨ i % 2 = 1 := by omega
    rcases this with h2 | h2 <;> simp [h2]
  · rw [if_neg (by omega)]
    rw [Array.getElem?_eq_none (by simp; omega)]
theorem B1_one : upd (fun _ => 0) 0 1 = B1 1 := by
  funext r; unfold upd B1
  by_cases e : r = 0
  · rw [if_pos e, if_pos e]
  · rw [if_neg e, if_neg e, if_neg (by omega)]
theorem C1_one : upd (fun _ => 0) 0 (-1) = C1 1 := by
  funext r; unfold upd C1
  by_cases e : r = 0
  · rw [if_pos e, if_pos e]
  · rw [if_neg e, if_neg e, if_neg (by omega)]
theorem infoS : (Try.prog.info? 70).map (fun i => (i.zero, i.size, i.bytes)) = some (some (.agg #[.int .i32 0, .int .i32 0]), 2, 8) := by kernel_rfl
set_option maxHeartbeats 1000000 in
set_option maxRecDepth 100000 in
theorem init_calls (w : World) (v : Nat) (x : Value) (hv : Var w v 51 x) :
    Calls Try.prog 44 #[.pointer (some ⟨v, 0, none⟩)] w fun e w' => e = .returned (.tuple #[]) ∧ At w' v w.heap.size 51200 (B0 51200) (C0 51200) ∧ w'.heap.size = w.heap.size + 1 ∧ Chg [v] w w' := by
  have HV := Aside0.mk hv
  have HC := Aside0.mk (Chg.refl [v] w)
  have HZ := Aside0.mk row_made
  clear hv
  go_enter Try.func44, Try.ntmps44
  go_upto_region 1 with (at_make; refine wpList_make rfl _ _ _ rfl _ _ 2 8 Try.underlying51 infoS .i64 .i64 51200 51200 rfl rfl (by omega) (by omega) (by omega) (by omega) ?_; intro w2 e2; have HV2 : Aside0 (Var w2 v 51 x) := ⟨by rw [e2]; exact HV.out.alloc _⟩; have h1 := HV2.out.cell; have f1 := HV2.out.frozen 0 none; have E2 := Aside0.mk e2; clear e2)
  have hA : At (w2.setCell ⟨v, 0, none⟩ (.slice (some ⟨w.heap.size, 0, none⟩) 51200 51200)) v w.heap.size 51200 (fun _ => 0) (fun _ => 0) := by
    have hlt := HV.out.lt
    refine ⟨by omega, HV2.out.set _, (Below.heap_setCell _ _ _ _ (by show w.heap.size ≠ v; omega)).trans ?_⟩
    rw [E2.out, heap_alloc_new, ← row_made]
    rfl
  have hC : Chg [v] w (w2.setCell ⟨v, 0, none⟩ (.slice (some ⟨w.heap.size, 0, none⟩) 51200 51200)) := by
    rw [E2.out]; exact ((Chg.refl _ _).alloc _).setCell (.inl (by simp)) _
  have hS : (w2.setCell ⟨v, 0, none⟩ (.slice (some ⟨w.heap.size, 0, none⟩) 51200 51200)).heap.size = w.heap.size + 1 := by
    rw [E2.out, size_setCell, size_alloc]
  have HA := Aside0.mk hA
  have HS := Aside0.mk hS
  have HC := Aside0.mk hC
  clear hA hS hC h1 f1 E2 HV2 HV
  generalize (w2.setCell ⟨v, 0, none⟩ (.slice (some ⟨w.heap.size, 0, none⟩) 51200 51200)) = w3 at *
  have h1 := HA.out.cell
  have h2 : w3.cell? ⟨w.heap.size, 0, none⟩ = some (.int .i32 0) := HA.out.base 0 (by omega)
  have f2 := HA.out.frozen 0 none
  have h3 : w3.cell? ⟨w.heap.size, 1, none⟩ = some (.int .i32 0) := HA.out.check 0 (by omega)
  have f3 := HA.out.frozen 1 none
  have n1 : ¬ v = w.heap.size := HA.out.ne
  have n2 : ¬ w.heap.size = v := fun e => n1 e.symm
  go_upto_region 3 with fail
  have hA : At ((w3.setCell ⟨w.heap.size, 0, none⟩ (.int .i32 1)).setCell ⟨w.heap.size, 1, none⟩ (.int .i32 (-1))) v w.heap.size 51200 (B1 1) (C1 1) := by
    rw [← B1_one, ← C1_one]
    exact (HA.out.setBase 0 _).setCheck 0 _
  have hC : Chg [v] w ((w3.setCell ⟨w.heap.size, 0, none⟩ (.int .i32 1)).setCell ⟨w.heap.size, 1, none⟩ (.int .i32 (-1))) :=
    (HC.out.setCell (.inr (Nat.le_refl _)) _).setCell (.inr (Nat.le_refl _)) _
  have hS : ((w3.setCell ⟨w.heap.size, 0, none⟩ (.int .i32 1)).setCell ⟨w.heap.size, 1, none⟩ (.int .i32 (-1))).heap.size = w.heap.size + 1 := by rw [size_setCell, size_setCell, HS.out]
  have HA2 := Aside0.mk hA
  have HC2 := Aside0.mk hC
  have HS2 := Aside0.mk hS
  clear hA hC hS HA HC HS h1 h2 h3 f2 f3
  generalize (w3.setCell ⟨w.heap.size, 0, none⟩ (.int .i32 1)).setCell ⟨w.heap.size, 1, none⟩ (.int .i32 (-1)) = w4 at *
  obtain ⟨N, hN⟩ : ∃ N : Nat, N = 51200 := ⟨_, rfl⟩
  rw [← hN] at HA2
  have hN1 : N ≤ 60000 := by omega
  have hN2 : 2 ≤ N := by omega
  have HN := Aside0.mk hN
  clear hN
  have h1 := HA2.out.cell
  go_wp2
  go_loopw [3] (fun v3 wr => ∃ i : Nat, v3 = .int .i64 i ∧ Aside0 (1 ≤ i ∧ i ≤ N) ∧ Aside0 (At wr v w.heap.size N (B1 i) (C1 i)) ∧ Aside0 (Chg [v] w wr) ∧ Aside0 (wr.heap.size = w.heap.size + 1)) (fun v3 _ => N - (intOf v3).toNat)
  case atStart => exact ⟨1, rfl, ⟨by omega⟩, HA2, HC2, HS2⟩
  case round =>
    clear h1 HA2 HC2 HS2
    obtain ⟨i, rfl, HI, HA, HC, HS⟩ := hrel
    have hi1 := HI.out.1
    have hi2 := HI.out.2
    have h1 := HA.out.cell
    by_cases hlt : i < N
    · have h2 := HA.out.base i hlt
      have h3 := HA.out.check i hlt
      have f2 := HA.out.frozen (i * 2) none
      have f3 := HA.out.frozen (i * 2 + 1) none
      have q1 : IntKind.i64.wrap (-((i : Int) - 1)) = -((i : Int) - 1) := wrap_neg (by omega) (by omega)
      have q2 : IntKind.i64.wrap (-((i : Int) + 1)) = -((i : Int) + 1) := wrap_neg (by omega) (by omega)
      have q3 : IntKind.i32.wrap (-((i : Int) - 1)) = -((i : Int) - 1) := wrap32n (by omega) (by omega)
      have q4 : IntKind.i32.wrap (-((i : Int) + 1)) = -((i : Int) + 1) := wrap32n (by omega) (by omega)
      have Q := Aside0.mk (And.intro q1 (And.intro q2 (And.intro q3 q4)))
      clear q1 q2 q3 q4
      go_wp2
      go_roundw
      case rel => exact ⟨i + 1, by go_num, ⟨by omega⟩, ⟨by rw [← B1_succ i hi1, ← C1_succ i hi1]; exact (HA.out.setBase i _).setCheck i _⟩, ⟨(HC.out.setCell (.inr (Nat.le_refl _)) _).setCell (.inr (Nat.le_refl _)) _⟩, ⟨by rw [size_setCell, size_setCell]; exact HS.out⟩⟩
      case measure => simp [intOf]; omega
    · obtain rfl : i = N := by omega
      have h2 : wr.cell? ⟨w.heap.size, 2, none⟩ = some (.int .i32 (B1 i 1)) := HA.out.base 1 (by omega)
      have h3 := HA.out.check (i - 1) (by omega)
      have f2 := HA.out.frozen 2 none
      have f3 := HA.out.frozen ((i - 1) * 2 + 1) none
      go_wp2
      go_end0
      have hA := (HA.out.setBase 1 (-((i : Int) - 1))).setCheck (i - 1) (-1)
      have e := HN.out
      refine ⟨rfl, ?_, by rw [size_setCell, size_setCell]; exact HS.out, (HC.out.setCell (.inr (Nat.le_refl _)) _).setCell (.inr (Nat.le_refl _)) _⟩
      rw [← e]
      exact hA
end Go.Proofs.Ytddcjmdcpkmnjab.Da
namespace Go.Proofs.Ytddcjmdcpkmnjab.Da
open Go.RowKit Go.Proofs.YtddcjmdcpkmnjabW.PrintWords Go.Proofs.Ytddcjmdcpkmnjab.Gn
/-- The world has drawn alone. -/
def Drw (w w1 : World) : Prop := ∃ m, w1 = w.drewN m
theorem Drw.refl (w : World) : Drw w w := ⟨0, rfl⟩
theorem Drw.drewN {w w1 : World} (h : Drw w w1) (k : Nat) : Drw w (w1.drewN k) := by
  obtain ⟨m, rfl⟩ := h; exact ⟨m + k, by rw [World.drewN_drewN]⟩
theorem Drw.at {w w1 : World} {v b n : Nat} {B C : Nat → Int} (h : Drw w w1) (hA : At w v b n B C) : At w1 v b n B C := by
  obtain ⟨m, rfl⟩ := h; exact hA.drewN m
theorem Drw.cell {w w1 : World} (h : Drw w w1) (a : Addr) : w1.cell? a = w.cell? a := by
  obtain ⟨m, rfl⟩ := h; rfl
theorem Drw.chg {w w1 : World} (S : List Nat) (h : Drw w w1) : Chg S w w1 := by
  obtain ⟨m, rfl⟩ := h; exact (Chg.refl S w).drewN m
theorem setBase_any (w : World) (v b n : Nat) (B C : Nat → Int) (p x : Nat) (h : At w v b n B C) (hp : p < n) (hx : x < 100000) (hn : n < 100000) (hu : p = 0 ∨ 0 ≤ C p) :
    Calls Try.prog 55 #[.pointer (some ⟨v, 0, none⟩), .int .i64 p, .int .i64 x] w fun e w' => e = .returned (.tuple #[]) ∧ At w' v b n (if p = 0 then B else upd B p x) C ∧ Chg [b] w w' := by
  by_cases e : p = 0
  · refine (setBase_root w v b n B C p x h e).mono ?_
    rintro e1 w1 ⟨rfl, rfl⟩
    exact ⟨rfl, by rw [if_pos e]; exact h, Chg.refl _ _⟩
  · refine (setBase_calls w v b n B C p x h hp (by omega) hx hn (hu.resolve_left e)).mono ?_
    rintro e1 w1 ⟨rfl, h1, h2⟩
    exact ⟨rfl, by rw [if_neg e]; exact h1, h2⟩
theorem lit (t : Array Value) (n : Nat) (h : t.size = n) : t = ((List.range n).map (fun q => t.getD q undef)).toArray := by
  apply Array.ext
  · simp [h]
  · intro i h1 h2
    simp [Array.getD, h1]
def SeekJ (w : World) (v p cb cap rep : Nat) (chs : List Nat) (f : Nat → Nat) (k : Nat) (a : Act) (w1 : World) : Prop :=
  ∃ (j : Nat) (u : Nat → Value), a = ⟨#[u 0, u 1, u 2, u 3, u 4, u 5, u 6, u 7, u 8, u 9, u 10, u 11, u 12, u 13, u 14, u 15, u 16, u 17, u 18, u 19, u 20, u 21, u 22, u 23, u 24, u 25, u 26, u 27, u 28, u 29, u 30, u 31, u 32, u 33, u 34, u 35, u 36, u 37, u 38, u 39, u 40, u 41, u 42, u 43, u 44, u 45, u 46, u 47, u 48, u 49, u 50, u 51, u 52, u 53, u 54, u 55, u 56, u 57, u 58, u 59, u 60, u 61, u 62, u 63, u 64, u 65, u 66, u 67, u 68, u 69, u 70, u 71, u 72, u 73, u 74, u 75, u 76, u 77, u 78, u 79, u 80, u 81, u 82, u 83, u 84, u 85, u 86, u 87, u 88, u 89, u 90, u 91, u 92, u 93, u 94, u 95, u 96, u 97, u 98, u 99, u 100, u 101, u 102, u 103, u 104, u 105, u 106, u 107, u 108, u 109, u 110, u 111, u 112, u 113], []⟩ ∧ u 0 = .pointer (some ⟨v, 0, none⟩) ∧ u 1 = .int .i64 p ∧ u 2 = .slice (some ⟨cb, 0, none⟩) chs.length cap ∧ u 6 = .int .i64 (f j : Nat) ∧ u 7 = .int .i64 rep ∧ Aside0 (j < k) ∧ Aside0 (Drw w w1)
theorem SeekJ.of {w : World} {v p cb cap rep : Nat} {chs : List Nat} {f : Nat → Nat} {k : Nat} {a : Act} {w1 : World} (j : Nat) (h : a.tmps.size = 114) (hd : a.defers = []) (h0 : a.tmps.getD 0 undef = .pointer (some ⟨v, 0, none⟩)) (h1 : a.tmps.getD 1 undef = .int .i64 p) (h2 : a.tmps.getD 2 undef = .slice (some ⟨cb, 0, none⟩) chs.length cap)
    (h6 : a.tmps.getD 6 undef = .int .i64 (f j : Nat)) (h7 : a.tmps.getD 7 undef = .int .i64 rep) (hj : j < k) (hD : Drw w w1) : SeekJ w v p cb cap rep chs f k a w1 := by
  obtain ⟨t, d⟩ := a
  dsimp only at *
  subst hd
  exact ⟨j, fun q => t.getD q undef, congrArg (fun x => (⟨x, []⟩ : Act)) (lit t 114 h), h0, h1, h2, h6, h7, ⟨hj⟩, ⟨hD⟩⟩
/-- The signs lie in block cb. -/
def Chs (w : World) (cb : Nat) (chs : List Nat) : Prop := ∀ (i : Nat) (h : i < chs.length), w.cell? ⟨cb, i, none⟩ = some (.int .u8 (chs[i] : Nat))
theorem Chs.chg {S : List Nat} {w w1 : World} {cb : Nat} {chs : List Nat} (h : Chs w cb chs) (hc : Chg S w w1) (hs : cb ∉ S) : Chs w1 cb chs := fun i hi => by
  have h1 := h i hi
  have hlt : cb < w.heap.size := World.block_lt_of_cell? w _ h1
  exact (World.cell?_of_block (w := w) (hc.block cb hlt hs)).trans h1

set_option maxHeartbeats 2000000 in
set_option maxRecDepth 100000 in
theorem seek_calls (w : World) (v b n : Nat) (B C : Nat → Int) (p cb cap : Nat) (rep : Nat) (chs : List Nat) (f : Nat → Nat) (k : Nat) (U : List Nat) (h : At w v b n B C) (hcs : Chs w cb chs) (hcb : cb ≠ b) (hcv : cb ≠ v) (hp : p < n) (hn : n ≤ 60000) (hI : Inv n B C) (hU : Used n C U) (hpu : p = 0 ∨ 0 ≤ C p)
    (hS : Seek n C rep chs f k) (hrep : chs[0]? = some rep) (hnd : chs.Nodup) (hc255 : ∀ c ∈ chs, c ≤ 255) (hul : U.length + chs.length + 4 ≤ n) (hcap : chs.length ≤ cap)
    (base : Nat) (hb0 : p = 0 → B 0 = (base : Int) ∧ 1 ≤ base ∧ ∀ c ∈ chs, base + c < n ∧ C (base + c) < 0) (hb1 : p ≠ 0 → f k = base + rep) :
    Calls Try.prog 50 #[.pointer (some ⟨v, 0, none⟩), .int .i64 p, .slice (some ⟨cb, 0, none⟩) chs.length cap] w fun e w' => e = .returned (.tuple #[]) ∧ ∃ B' C', At w' v b n B' C' ∧ Chg [b] w w' ∧ Marked n p base B C chs B' C' := by
  have H := Aside0.mk h
  have HCS := Aside0.mk hcs
  have HI := Aside0.mk hI
  have HU := Aside0.mk hU
  have HPU := Aside0.mk hpu
  have HS := Aside0.mk hS
  have HREP := Aside0.mk hrep
  have HND := Aside0.mk hnd
  have H255 := Aside0.mk hc255
  have HUL := Aside0.mk hul
  have HB0 := Aside0.mk hb0
  have HB1 := Aside0.mk hb1
  have hlen : 0 < chs.length := (List.getElem?_eq_some_iff.1 hrep).1
  have hr255 : rep ≤ 255 := hc255 rep (List.mem_of_getElem? hrep)
  have hch0 : w.cell? ⟨cb, 0, none⟩ = some (.int .u8 (rep : Nat)) := by
    have := hcs 0 hlen
    rwa [(List.getElem?_eq_some_iff.1 hrep).2] at this
  have hl0 : decide ((0 : Int) < (chs.length : Int)) = true := decide_eq_true (by omega)
  have hcl : chs.length ≤ 60000 := by omega
  clear h hcs hI hU hpu hS hrep hnd hc255 hul hb0 hb1
  go_enter Try.func50, Try.ntmps50
  go_wp2
  refine wp_scope_jumps 0 (SeekJ w v p cb cap rep chs f k) (fun a _ => n - (intOf (a.tmps.getD 6 undef)).toNat) rfl ?_ ?_
  · go_wp2
    go_step3
    go_wp2
    go_loopw [6] (fun v6 wr => ∃ j : Nat, v6 = .int .i64 (f j : Nat) ∧ Aside0 (j < k) ∧ Aside0 (Drw w wr)) (fun v6 _ => n - (intOf v6).toNat)
    case atStart => exact ⟨0, by rw [HS.out.zero]; rfl, ⟨HS.out.pos⟩, ⟨Drw.refl _⟩⟩
    case round =>
      clear hch0 hl0
      obtain ⟨j, rfl, HJ, HD⟩ := hrel
      have hA := HD.out.at H.out
      have hj1 := (HS.out.step j HJ.out)
      have hup := HS.out.up j HJ.out
      have hfj : f j < n := by omega
      have h1 := hA.cell
      have h3 := hA.check (f j) hfj
      rw [hj1.1] at h3
      have h0 : wr.cell? ⟨b, 1, none⟩ = some (.int .i32 (-(f 1 : Nat))) := by
        have := hA.check 0 (by omega)
        have e := (HS.out.step 0 (by have := HS.out.pos; omega)).1
        rw [HS.out.zero] at e
        rw [e] at this
        exact this
      have hn1 := hj1.2.1
      have hn2 := hj1.2.2
      have HA := Aside0.mk hA
      have h4 : decide ((0:Int) ≤ (f j : Nat)) = true := decide_eq_true (by omega)
      have h5 : decide ((f j : Nat) < (n:Int)) = true := decide_eq_true (by omega)
      have h6 : (0:Int) < (n : Int) := by omega
      have h7 : 0 < n := by omega
      have HJ1 := Aside0.mk hj1.1
      have hG : ((((f j : Nat) : Int) != 0) = false ∧ ((f j : Nat) != 0) = false) ∨ ((((f j : Nat) : Int) != 0) = true ∧ ((f j : Nat) != 0) = true ∧ ((-(f (j + 1) : Nat) : Int) == (-(f 1 : Nat) : Int)) = false ∧ (((f (j + 1) : Nat) : Int) == ((f 1 : Nat) : Int)) = false ∧ (f (j + 1) == f 1) = false) := by
        by_cases hj0 : j = 0
        · left
          rw [hj0, HS.out.zero]
          exact ⟨rfl, rfl⟩
        · right
          have e : C (f 0) = -((f 1 : Nat) : Int) := (HS.out.step 0 (by have := HS.out.pos; omega)).1
          rw [HS.out.zero] at e
          have e2 := HS.out.notlast j (by omega) HJ.out
          rw [hj1.1, e] at e2
          have e3 : 1 ≤ f j := by
            obtain ⟨i, rfl⟩ : ∃ i, j = i + 1 := ⟨j - 1, by omega⟩
            have hj := HJ.out
            exact (HS.out.step i (by omega)).2.1
          have e4 : f j ≠ 0 := by omega
          have e5 : f (j + 1) ≠ f 1 := by omega
          refine ⟨bne_iff_ne.2 (by omega), bne_iff_ne.2 e4, beq_eq_false_iff_ne.2 e2, beq_eq_false_iff_ne.2 (by omega), beq_eq_false_iff_ne.2 e5⟩
      clear hj1 hA
      rcases hG with ⟨g1, g2⟩ | ⟨g1, g2, g3, g4, g5⟩
      all_goals
        go_wp2_with fail
        go_quiet (fail)
        by_cases hle : f (j + 1) ≤ rep
        · go_wp2_with fail
          go_roundw
          case rel =>
            have hj := HJ.out
            have hlo := HS.out.lo
            refine ⟨j + 1, rfl, ⟨by rcases Nat.lt_or_ge (j + 1) k with g | g; exact g; (obtain rfl : j + 1 = k := by omega); omega⟩, ⟨HD.out.drewN _⟩⟩
          case measure => simp [intOf]; omega
        · obtain ⟨bs, hbs⟩ : ∃ bs, f (j + 1) = bs + rep := ⟨f (j + 1) - rep, by omega⟩
          have hbs1 : 1 ≤ bs := by omega
          have hbsn : bs < n := by omega
          go_wp2_with fail
          have HD5 := Aside0.mk (HD.out.drewN nq)
          clear HD HA h1 h3 h0 g1 g2
          generalize wr.drewN nq = w5 at *
          have hA5 := HD5.out.at H.out
          have h1 := hA5.cell
          have HA5 := Aside0.mk hA5
          clear hA5
          go_loop [55] (fun v55 => ∃ i : Nat, v55 = .int .i64 i ∧ Aside0 (i ≤ chs.length) ∧ Aside0 (∀ i', i' < i → ∀ (h : i' < chs.length), bs + chs[i'] < n → C (bs + chs[i']) < 0)) (fun v55 => chs.length - (intOf v55).toNat)
          case atStart => exact ⟨0, rfl, ⟨Nat.zero_le _⟩, ⟨fun _ h => by omega⟩⟩
          case round =>
            obtain ⟨i, rfl, HIL, HFIT⟩ := hrel
            have hil := HIL.out
            by_cases hlt : i < chs.length
            · obtain ⟨c, hc⟩ : ∃ c, c = chs[i] := ⟨_, rfl⟩
              have hcell := (HD5.out.cell ⟨cb, i, none⟩).trans (HCS.out i hlt)
              rw [← hc] at hcell
              have hmem : c ∈ chs := by rw [hc]; exact List.getElem_mem _
              have hcn : c ≤ 255 := H255.out c hmem
              have HCE := Aside0.mk hc
              have HCM := Aside0.mk hmem
              have k1 : decide ((0:Int) ≤ (i:Int)) = true := decide_eq_true (by omega)
              have k2 : decide ((i:Int) < (chs.length:Int)) = true := decide_eq_true (by omega)
              have k3 : decide (i < chs.length) = true := decide_eq_true (by omega)
              clear hc hmem
              by_cases hq : bs + c < n
              · have h8 := HA5.out.check (bs + c) hq
                have q1 : decide ((bs:Int) + (c:Int) < (n:Int)) = true := decide_eq_true (by omega)
                have q2 : decide (bs + c < n) = true := decide_eq_true (by omega)
                have q3 : decide ((0:Int) ≤ (bs:Int) + (c:Int)) = true := decide_eq_true (by omega)
                have q4 : ((bs:Int) + (c:Int)).toNat = bs + c := by omega
                by_cases hneg : C (bs + c) < 0
                · have q5 : decide (0 ≤ C (bs + c)) = false := decide_eq_false (by omega)
                  go_wp2_with fail
                  go_round
                  case rel => exact ⟨i + 1, by go_num, ⟨by omega⟩, ⟨fun i' h1' h2' h3' => by
                    rcases Nat.lt_or_ge i' i with g | g
                    · exact HFIT.out i' g h2' h3'
                    · obtain rfl : i' = i := by omega
                      rw [← HCE.out]; exact hneg⟩⟩
                  case measure => simp [intOf]; omega
                · have q5 : decide (0 ≤ C (bs + c)) = true := decide_eq_true (by omega)
                  go_wp2_with fail
                  go_step3
                  have hjk : j + 1 < k := by
                    have hj := HJ.out
                    rcases Nat.lt_or_ge (j + 1) k with g | g
                    · exact g
                    · obtain rfl : j + 1 = k := by omega
                      have := (HS.out.fits c HCM.out).2
                      rw [hbs, Nat.add_sub_cancel] at this
                      omega
                  exact ⟨rfl, SeekJ.of (j + 1) rfl rfl rfl rfl rfl (by rw [hbs, Int.natCast_add]; rfl) rfl hjk HD5.out⟩
              · have q1 : decide ((bs:Int) + (c:Int) < (n:Int)) = false := decide_eq_false (by omega)
                have q2 : decide (bs + c < n) = false := decide_eq_false (by omega)
                go_wp2_with fail
                go_round
                case rel => exact ⟨i + 1, by go_num, ⟨by omega⟩, ⟨fun i' h1' h2' h3' => by
                  rcases Nat.lt_or_ge i' i with g | g
                  · exact HFIT.out i' g h2' h3'
                  · obtain rfl : i' = i := by omega
                    rw [← HCE.out] at h3'; exact absurd h3' hq⟩⟩
                case measure => simp [intOf]; omega
            · obtain rfl : i = chs.length := by omega
              have hjk : j + 1 = k := by
                have hj := HJ.out
                rcases Nat.lt_or_ge (j + 1) k with g | g
                · rcases HS.out.bad (j + 1) (by omega) g with e | ⟨c, c1, c2, c3⟩
                  · exact absurd e hle
                  · rw [hbs, Nat.add_sub_cancel] at c2 c3
                    obtain ⟨i', hi', e⟩ := List.getElem_of_mem c1
                    have := HFIT.out i' hi' hi' (by rw [e]; exact c2)
                    rw [e] at this
                    omega
                · omega
              have HFK : Aside0 (f k = bs + rep) := ⟨by rw [← hjk]; exact hbs⟩
              have HQ : Aside0 (∀ c ∈ chs, base + c < n ∧ C (base + c) < 0) := ⟨fun c hc => by
                by_cases e : p = 0
                · exact (HB0.out e).2.2 c hc
                · have e1 := HB1.out e
                  have := HS.out.fits c hc
                  rw [e1, Nat.add_sub_cancel] at this
                  exact this⟩
              have HB1' : Aside0 (1 ≤ base) := ⟨by
                by_cases e : p = 0
                · exact (HB0.out e).2.1
                · have e1 := HB1.out e
                  have e2 := HFK.out
                  omega⟩
              have HBQ : Aside0 ((if p = 0 then B else upd B p bs) = (if p = 0 then B else upd B p base)) := ⟨by
                by_cases e : p = 0
                · rw [if_pos e, if_pos e]
                · rw [if_neg e, if_neg e]
                  have e1 := HB1.out e
                  have e2 := HFK.out
                  have : bs = base := by omega
                  rw [this]⟩
              have HST := Aside0.mk (Marked.start HI.out hp HPU.out (fun e => (HB0.out e).1))
              have HCSB := Aside0.mk (setBase_any w5 v b n B C p bs HA5.out hp (by omega) (by omega) HPU.out)
              have HC5 := Aside0.mk (HD5.out.chg [b])
              clear hbs hle hjk h1 hlt HFIT
              go_wp2_with (go_at_call 55; refine HCSB.out.mono ?_; rintro e w6 ⟨rfl, ha6, hc6⟩; rw [HBQ.out] at ha6; have HA6 := Aside0.mk ha6; have HC6 := Aside0.mk (HC5.out.trans hc6); clear ha6 hc6 HCSB)
              go_loopw [86] (fun v86 wr => ∃ (i : Nat) (Bi Ci : Nat → Int), v86 = .int .i64 i ∧ Aside0 (i ≤ chs.length) ∧ Aside0 (At wr v b n Bi Ci) ∧ Aside0 (Marked n p base B C (chs.take i) Bi Ci) ∧ Aside0 (Chg [b] w wr)) (fun v86 _ => chs.length - (intOf v86).toNat)
              case atStart => exact ⟨0, _, _, rfl, ⟨Nat.zero_le _⟩, HA6, ⟨by rw [List.take_zero]; exact HST.out⟩, HC6⟩
              case round =>
                clear HA6 HC6 HST HC5 HA5 HD5
                obtain ⟨i, Bi, Ci, rfl, HIL, HAi, HMi, HCi⟩ := hrel
                by_cases hlt : i < chs.length
                · have h1 := HAi.out.cell
                  have h2 := HAi.out.base p hp
                  rw [HMi.out.based] at h2
                  obtain ⟨c, hc⟩ : ∃ c, c = chs[i] := ⟨_, rfl⟩
                  have hcell := (HCS.out.chg HCi.out (by simpa using hcb)) i hlt
                  rw [← hc] at hcell
                  have hmem : c ∈ chs := by rw [hc]; exact List.getElem_mem _
                  have hcn : c ≤ 255 := H255.out c hmem
                  obtain ⟨q0, q1⟩ := HQ.out c hmem
                  have hb1 := HB1'.out
                  have HT := Aside0.mk (show chs.take (i + 1) = chs.take i ++ [c] by rw [List.take_succ_eq_append_getElem hlt, ← hc])
                  have hnot : c ∉ chs.take i := by
                    have hnd := HND.out
                    rw [← List.take_append_drop (i + 1) chs, HT.out, List.append_assoc, List.nodup_append] at hnd
                    exact fun g => hnd.2.2 c g c (by simp) rfl
                  have HNOT := Aside0.mk hnot
                  have hf := HMi.out.free (base + c) (by omega) q0 q1 (fun c2 h2 e => hnot (by rw [show c = c2 from by omega]; exact h2))
                  have hlt2 : (((chs.take i).map (base + ·)) ++ U).length + 4 ≤ n := by
                    have := HUL.out
                    simp only [List.length_append, List.length_map, List.length_take]
                    omega
                  obtain ⟨pr, nx, t1, t2, t3, t4, t5, t6, t7, t8, t9⟩ := HMi.out.inv.three (HMi.out.used HU.out) hlt2 (by omega) q0 hf
                  obtain ⟨c0, r1, r2, r3, r4⟩ := HMi.out.inv.root
                  have HCC := Aside0.mk (setCheck_calls wr v b n Bi Ci (base + c) p HAi.out q0 (by omega) (by omega) (by omega) pr nx t1 t2 t3 t4 t5 t6 t7 c0 r1 r3)
                  have HMS := Aside0.mk (HMi.out.step hp HPU.out hb1 hnot q0 q1 t1 t2 t5 t6 t7)
                  have HSUM := Aside0.mk (show ((base : Int) + (c : Int)) = ((base + c : Nat) : Int) from by omega)
                  have k1 : decide ((0:Int) ≤ (i:Int)) = true := decide_eq_true (by omega)
                  have k2 : decide ((i:Int) < (chs.length:Int)) = true := decide_eq_true (by omega)
                  have k3 : decide (i < chs.length) = true := decide_eq_true (by omega)
                  have k4 : decide ((n:Int) ≤ (base:Int) + (c:Int)) = false := decide_eq_false (by omega)
                  have k5 : decide (n ≤ base + c) = false := decide_eq_false (by omega)
                  have k6 : (base:Int) < 60000 := by omega
                  have k7 : (0:Int) ≤ (p : Int) := by omega
                  have k8 : (p:Int) < (n : Int) := by omega
                  have HCi2 := HCi
                  clear hc hmem hnot hf hlt2 t1 t2 t3 t4 t5 t6 t7 t8 t9 r1 r2 r3 r4 q1 HCi
                  go_wp2_with (go_at_call 56; rw [HSUM.out]; refine HCC.out.mono ?_; rintro e w7 ⟨rfl, ha7, hc7⟩; have HA7 := Aside0.mk ha7; have HC7 := Aside0.mk (HCi2.out.trans hc7); clear ha7 hc7 HCC)
                  go_roundw
                  case rel => exact ⟨i + 1, _, _, by go_num, ⟨by omega⟩, HA7, ⟨by rw [HT.out]; exact HMS.out⟩, HC7⟩
                  case measure => simp [intOf]; omega
                · have hi : i = chs.length := by have := HIL.out; omega
                  have ht : chs.take i = chs := by rw [hi, List.take_length]
                  have HM := HMi.out
                  rw [ht] at HM
                  have HMM := Aside0.mk HM
                  clear HM ht hi HMi
                  go_wp2_with fail
                  simp only [Exit.jump]
                  go_end0
                  exact ⟨rfl, _, _, HAi.out, HCi.out, HMM.out⟩
  · rintro a1 w1 ⟨j0, u, rfl, e0, e1, e2, e6, e7, HJ, HD⟩
    rw [e0, e1, e2, e6, e7]
    have HMS0 := Aside0.mk (show intOf (Value.int .i64 (f j0 : Nat)) = (f j0 : Nat) from rfl)
    clear hch0 hl0
    go_wp2
    go_loopw [6] (fun v6 wr => ∃ j : Nat, v6 = .int .i64 (f j : Nat) ∧ Aside0 (j < k) ∧ Aside0 (Drw w wr) ∧ Aside0 (n - f j ≤ n - f j0)) (fun v6 _ => n - (intOf v6).toNat)
    case atStart => exact ⟨j0, rfl, HJ, HD, ⟨Nat.le_refl _⟩⟩
    case round =>
      clear HJ HD e0 e1 e2 e6 e7
      obtain ⟨j, rfl, HJ, HD, HM⟩ := hrel
      have hA := HD.out.at H.out
      have hj1 := (HS.out.step j HJ.out)
      have hup := HS.out.up j HJ.out
      have hfj : f j < n := by omega
      have h1 := hA.cell
      have h3 := hA.check (f j) hfj
      rw [hj1.1] at h3
      have h0 : wr.cell? ⟨b, 1, none⟩ = some (.int .i32 (-(f 1 : Nat))) := by
        have := hA.check 0 (by omega)
        have e := (HS.out.step 0 (by have := HS.out.pos; omega)).1
        rw [HS.out.zero] at e
        rw [e] at this
        exact this
      have hn1 := hj1.2.1
      have hn2 := hj1.2.2
      have HA := Aside0.mk hA
      have h4 : decide ((0:Int) ≤ (f j : Nat)) = true := decide_eq_true (by omega)
      have h5 : decide ((f j : Nat) < (n:Int)) = true := decide_eq_true (by omega)
      have h6 : (0:Int) < (n : Int) := by omega
      have h7 : 0 < n := by omega
      have HJ1 := Aside0.mk hj1.1
      have hG : ((((f j : Nat) : Int) != 0) = false ∧ ((f j : Nat) != 0) = false) ∨ ((((f j : Nat) : Int) != 0) = true ∧ ((f j : Nat) != 0) = true ∧ ((-(f (j + 1) : Nat) : Int) == (-(f 1 : Nat) : Int)) = false ∧ (((f (j + 1) : Nat) : Int) == ((f 1 : Nat) : Int)) = false ∧ (f (j + 1) == f 1) = false) := by
        by_cases hj0 : j = 0
        · left
          rw [hj0, HS.out.zero]
          exact ⟨rfl, rfl⟩
        · right
          have e : C (f 0) = -((f 1 : Nat) : Int) := (HS.out.step 0 (by have := HS.out.pos; omega)).1
          rw [HS.out.zero] at e
          have e2 := HS.out.notlast j (by omega) HJ.out
          rw [hj1.1, e] at e2
          have e3 : 1 ≤ f j := by
            obtain ⟨i, rfl⟩ : ∃ i, j = i + 1 := ⟨j - 1, by omega⟩
            have hj := HJ.out
            exact (HS.out.step i (by omega)).2.1
          have e4 : f j ≠ 0 := by omega
          have e5 : f (j + 1) ≠ f 1 := by omega
          refine ⟨bne_iff_ne.2 (by omega), bne_iff_ne.2 e4, beq_eq_false_iff_ne.2 e2, beq_eq_false_iff_ne.2 (by omega), beq_eq_false_iff_ne.2 e5⟩
      clear hj1 hA
      rcases hG with ⟨g1, g2⟩ | ⟨g1, g2, g3, g4, g5⟩
      all_goals
        go_wp2_with fail
        go_quiet (fail)
        by_cases hle : f (j + 1) ≤ rep
        · go_wp2_with fail
          go_roundw
          case rel =>
            have hj := HJ.out
            have hlo := HS.out.lo
            refine ⟨j + 1, rfl, ⟨by rcases Nat.lt_or_ge (j + 1) k with g | g; exact g; (obtain rfl : j + 1 = k := by omega); omega⟩, ⟨HD.out.drewN _⟩, ⟨by have := HM.out; omega⟩⟩
          case measure => simp [intOf]; omega
        · obtain ⟨bs, hbs⟩ : ∃ bs, f (j + 1) = bs + rep := ⟨f (j + 1) - rep, by omega⟩
          have hbs1 : 1 ≤ bs := by omega
          have hbsn : bs < n := by omega
          go_wp2_with fail
          have HD5 := Aside0.mk (HD.out.drewN nq)
          clear HD HA h1 h3 h0 g1 g2
          generalize wr.drewN nq = w5 at *
          have hA5 := HD5.out.at H.out
          have h1 := hA5.cell
          have HA5 := Aside0.mk hA5
          clear hA5
          go_loop [55] (fun v55 => ∃ i : Nat, v55 = .int .i64 i ∧ Aside0 (i ≤ chs.length) ∧ Aside0 (∀ i', i' < i → ∀ (h : i' < chs.length), bs + chs[i'] < n → C (bs + chs[i']) < 0)) (fun v55 => chs.length - (intOf v55).toNat)
          case atStart => exact ⟨0, rfl, ⟨Nat.zero_le _⟩, ⟨fun _ h => by omega⟩⟩
          case round =>
            obtain ⟨i, rfl, HIL, HFIT⟩ := hrel
            have hil := HIL.out
            by_cases hlt : i < chs.length
            · obtain ⟨c, hc⟩ : ∃ c, c = chs[i] := ⟨_, rfl⟩
              have hcell := (HD5.out.cell ⟨cb, i, none⟩).trans (HCS.out i hlt)
              rw [← hc] at hcell
              have hmem : c ∈ chs := by rw [hc]; exact List.getElem_mem _
              have hcn : c ≤ 255 := H255.out c hmem
              have HCE := Aside0.mk hc
              have HCM := Aside0.mk hmem
              have k1 : decide ((0:Int) ≤ (i:Int)) = true := decide_eq_true (by omega)
              have k2 : decide ((i:Int) < (chs.length:Int)) = true := decide_eq_true (by omega)
              have k3 : decide (i < chs.length) = true := decide_eq_true (by omega)
              clear hc hmem
              by_cases hq : bs + c < n
              · have h8 := HA5.out.check (bs + c) hq
                have q1 : decide ((bs:Int) + (c:Int) < (n:Int)) = true := decide_eq_true (by omega)
                have q2 : decide (bs + c < n) = true := decide_eq_true (by omega)
                have q3 : decide ((0:Int) ≤ (bs:Int) + (c:Int)) = true := decide_eq_true (by omega)
                have q4 : ((bs:Int) + (c:Int)).toNat = bs + c := by omega
                by_cases hneg : C (bs + c) < 0
                · have q5 : decide (0 ≤ C (bs + c)) = false := decide_eq_false (by omega)
                  go_wp2_with fail
                  go_round
                  case rel => exact ⟨i + 1, by go_num, ⟨by omega⟩, ⟨fun i' h1' h2' h3' => by
                    rcases Nat.lt_or_ge i' i with g | g
                    · exact HFIT.out i' g h2' h3'
                    · obtain rfl : i' = i := by omega
                      rw [← HCE.out]; exact hneg⟩⟩
                  case measure => simp [intOf]; omega
                · have q5 : decide (0 ≤ C (bs + c)) = true := decide_eq_true (by omega)
                  go_wp2_with fail
                  go_step3
                  have hjk : j + 1 < k := by
                    have hj := HJ.out
                    rcases Nat.lt_or_ge (j + 1) k with g | g
                    · exact g
                    · obtain rfl : j + 1 = k := by omega
                      have := (HS.out.fits c HCM.out).2
                      rw [hbs, Nat.add_sub_cancel] at this
                      omega
                  refine ⟨rfl, SeekJ.of (j + 1) rfl rfl rfl rfl rfl (by rw [hbs, Int.natCast_add]; rfl) rfl hjk HD5.out, ?_⟩
                  have hm := HM.out
                  simp [intOf]
                  omega
              · have q1 : decide ((bs:Int) + (c:Int) < (n:Int)) = false := decide_eq_false (by omega)
                have q2 : decide (bs + c < n) = false := decide_eq_false (by omega)
                go_wp2_with fail
                go_round
                case rel => exact ⟨i + 1, by go_num, ⟨by omega⟩, ⟨fun i' h1' h2' h3' => by
                  rcases Nat.lt_or_ge i' i with g | g
                  · exact HFIT.out i' g h2' h3'
                  · obtain rfl : i' = i := by omega
                    rw [← HCE.out] at h3'; exact absurd h3' hq⟩⟩
                case measure => simp [intOf]; omega
            · obtain rfl : i = chs.length := by omega
              have hjk : j + 1 = k := by
                have hj := HJ.out
                rcases Nat.lt_or_ge (j + 1) k with g | g
                · rcases HS.out.bad (j + 1) (by omega) g with e | ⟨c, c1, c2, c3⟩
                  · exact absurd e hle
                  · rw [hbs, Nat.add_sub_cancel] at c2 c3
                    obtain ⟨i', hi', e⟩ := List.getElem_of_mem c1
                    have := HFIT.out i' hi' hi' (by rw [e]; exact c2)
                    rw [e] at this
                    omega
                · omega
              have HFK : Aside0 (f k = bs + rep) := ⟨by rw [← hjk]; exact hbs⟩
              have HQ : Aside0 (∀ c ∈ chs, base + c < n ∧ C (base + c) < 0) := ⟨fun c hc => by
                by_cases e : p = 0
                · exact (HB0.out e).2.2 c hc
                · have e1 := HB1.out e
                  have := HS.out.fits c hc
                  rw [e1, Nat.add_sub_cancel] at this
                  exact this⟩
              have HB1' : Aside0 (1 ≤ base) := ⟨by
                by_cases e : p = 0
                · exact (HB0.out e).2.1
                · have e1 := HB1.out e
                  have e2 := HFK.out
                  omega⟩
              have HBQ : Aside0 ((if p = 0 then B else upd B p bs) = (if p = 0 then B else upd B p base)) := ⟨by
                by_cases e : p = 0
                · rw [if_pos e, if_pos e]
                · rw [if_neg e, if_neg e]
                  have e1 := HB1.out e
                  have e2 := HFK.out
                  have : bs = base := by omega
                  rw [this]⟩
              have HST := Aside0.mk (Marked.start HI.out hp HPU.out (fun e => (HB0.out e).1))
              have HCSB := Aside0.mk (setBase_any w5 v b n B C p bs HA5.out hp (by omega) (by omega) HPU.out)
              have HC5 := Aside0.mk (HD5.out.chg [b])
              clear hbs hle hjk h1 hlt HFIT
              go_wp2_with (go_at_call 55; refine HCSB.out.mono ?_; rintro e w6 ⟨rfl, ha6, hc6⟩; rw [HBQ.out] at ha6; have HA6 := Aside0.mk ha6; have HC6 := Aside0.mk (HC5.out.trans hc6); clear ha6 hc6 HCSB)
              go_loopw [86] (fun v86 wr => ∃ (i : Nat) (Bi Ci : Nat → Int), v86 = .int .i64 i ∧ Aside0 (i ≤ chs.length) ∧ Aside0 (At wr v b n Bi Ci) ∧ Aside0 (Marked n p base B C (chs.take i) Bi Ci) ∧ Aside0 (Chg [b] w wr)) (fun v86 _ => chs.length - (intOf v86).toNat)
              case atStart => exact ⟨0, _, _, rfl, ⟨Nat.zero_le _⟩, HA6, ⟨by rw [List.take_zero]; exact HST.out⟩, HC6⟩
              case round =>
                clear HA6 HC6 HST HC5 HA5 HD5
                obtain ⟨i, Bi, Ci, rfl, HIL, HAi, HMi, HCi⟩ := hrel
                by_cases hlt : i < chs.length
                · have h1 := HAi.out.cell
                  have h2 := HAi.out.base p hp
                  rw [HMi.out.based] at h2
                  obtain ⟨c, hc⟩ : ∃ c, c = chs[i] := ⟨_, rfl⟩
                  have hcell := (HCS.out.chg HCi.out (by simpa using hcb)) i hlt
                  rw [← hc] at hcell
                  have hmem : c ∈ chs := by rw [hc]; exact List.getElem_mem _
                  have hcn : c ≤ 255 := H255.out c hmem
                  obtain ⟨q0, q1⟩ := HQ.out c hmem
                  have hb1 := HB1'.out
                  have HT := Aside0.mk (show chs.take (i + 1) = chs.take i ++ [c] by rw [List.take_succ_eq_append_getElem hlt, ← hc])
                  have hnot : c ∉ chs.take i := by
                    have hnd := HND.out
                    rw [← List.take_append_drop (i + 1) chs, HT.out, List.append_assoc, List.nodup_append] at hnd
                    exact fun g => hnd.2.2 c g c (by simp) rfl
                  have HNOT := Aside0.mk hnot
                  have hf := HMi.out.free (base + c) (by omega) q0 q1 (fun c2 h2 e => hnot (by rw [show c = c2 from by omega]; exact h2))
                  have hlt2 : (((chs.take i).map (base + ·)) ++ U).length + 4 ≤ n := by
                    have := HUL.out
                    simp only [List.length_append, List.length_map, List.length_take]
                    omega
                  obtain ⟨pr, nx, t1, t2, t3, t4, t5, t6, t7, t8, t9⟩ := HMi.out.inv.three (HMi.out.used HU.out) hlt2 (by omega) q0 hf
                  obtain ⟨c0, r1, r2, r3, r4⟩ := HMi.out.inv.root
                  have HCC := Aside0.mk (setCheck_calls wr v b n Bi Ci (base + c) p HAi.out q0 (by omega) (by omega) (by omega) pr nx t1 t2 t3 t4 t5 t6 t7 c0 r1 r3)
                  have HMS := Aside0.mk (HMi.out.step hp HPU.out hb1 hnot q0 q1 t1 t2 t5 t6 t7)
                  have HSUM := Aside0.mk (show ((base : Int) + (c : Int)) = ((base + c : Nat) : Int) from by omega)
                  have k1 : decide ((0:Int) ≤ (i:Int)) = true := decide_eq_true (by omega)
                  have k2 : decide ((i:Int) < (chs.length:Int)) = true := decide_eq_true (by omega)
                  have k3 : decide (i < chs.length) = true := decide_eq_true (by omega)
                  have k4 : decide ((n:Int) ≤ (base:Int) + (c:Int)) = false := decide_eq_false (by omega)
                  have k5 : decide (n ≤ base + c) = false := decide_eq_false (by omega)
                  have k6 : (base:Int) < 60000 := by omega
                  have k7 : (0:Int) ≤ (p : Int) := by omega
                  have k8 : (p:Int) < (n : Int) := by omega
                  have HCi2 := HCi
                  clear hc hmem hnot hf hlt2 t1 t2 t3 t4 t5 t6 t7 t8 t9 r1 r2 r3 r4 q1 HCi
                  go_wp2_with (go_at_call 56; rw [HSUM.out]; refine HCC.out.mono ?_; rintro e w7 ⟨rfl, ha7, hc7⟩; have HA7 := Aside0.mk ha7; have HC7 := Aside0.mk (HCi2.out.trans hc7); clear ha7 hc7 HCC)
                  go_roundw
                  case rel => exact ⟨i + 1, _, _, by go_num, ⟨by omega⟩, HA7, ⟨by rw [HT.out]; exact HMS.out⟩, HC7⟩
                  case measure => simp [intOf]; omega
                · have hi : i = chs.length := by have := HIL.out; omega
                  have ht : chs.take i = chs := by rw [hi, List.take_length]
                  have HM := HMi.out
                  rw [ht] at HM
                  have HMM := Aside0.mk HM
                  clear HM ht hi HMi
                  go_wp2_with fail
                  simp only [Exit.jump]
                  go_end0
                  exact ⟨rfl, _, _, HAi.out, HCi.out, HMM.out⟩
end Go.Proofs.Ytddcjmdcpkmnjab.Da
namespace Go.Proofs.Ytddcjmdcpkmnjab.Da
open Go.RowKit Go.Proofs.YtddcjmdcpkmnjabW.PrintWords Go.Proofs.Ytddcjmdcpkmnjab.Gn
theorem At.setOther {w : World} {v b n : Nat} {B C : Nat → Int} (h : At w v b n B C) {a : Addr} (h1 : v ≠ a.block) (h2 : b ≠ a.block) (y : Value) : At (w.setCell a y) v b n B C :=
  ⟨h.ne, (Below.heap_setCell w a y v h1).trans h.var, (Below.heap_setCell w a y b h2).trans h.row⟩
theorem At.take {w : World} {v b n : Nat} {B C : Nat → Int} (h : At w v b n B C) (m : Nat) (hm : m ≤ n) : ∀ j x, ((Da.row n B C).toList.take (m * 2))[j]? = some x → w.cell? ((⟨b, 0, none⟩ : Addr).add j) = some x := by
  intro j x hx
  rw [List.getElem?_take] at hx
  split at hx
  · rw [Array.getElem?_toList] at hx
    have e : ((⟨b, 0, none⟩ : Addr).add j) = ⟨b, j, none⟩ := by
      unfold Addr.add
      by_cases hz : j = 0
      · rw [if_pos hz, hz]
      · rw [if_neg hz, Nat.zero_add]
    rw [e]
    simp [World.cell?, h.row, hx]
  · cases hx
theorem row_cut (n m : Nat) (B C : Nat → Int) (h : m ≤ n) : (row n B C).toList.take (m * 2) = (row m B C).toList := by
  apply List.ext_getElem?
  intro i
  rw [List.getElem?_take]
  simp only [Array.getElem?_toList, row_get]
  by_cases h1 : i < m * 2
  · rw [if_pos h1, if_pos h1, if_pos (by omega)]
  · rw [if_neg h1, if_neg h1]
theorem row_one (n : Nat) (B C : Nat → Int) : ∀ v ∈ (row n B C).toList, v.oneCell' = true := by
  intro v hv
  obtain ⟨i, hi, e⟩ := List.getElem_of_mem hv
  have h2 := row_get n B C i
  rw [← Array.getElem?_toList, List.getElem?_eq_getElem hi, e] at h2
  split at h2
  · injection h2 with h2; rw [h2]; rfl
  · cases h2
theorem row_zero (m : Nat) : madeCells #[.int .i32 0, .int .i32 0] (m * 2) = row m (fun _ => 0) (fun _ => 0) := by
  apply Array.ext_getElem?
  intro i
  rw [row_get]
  unfold madeCells
  by_cases h : i < m * 2
  · rw [if_pos h, Array.getElem?_map, Array.getElem?_range, if_pos h]
    have : i % 2 = 0 ∨ i % 2 = 1 := by omega
    rcases this with h2 | h2 <;> simp [h2]
  · rw [if_neg h, Array.getElem?_eq_none (by simp; omega)]
/-- What truncate leaves: the cells behind m were free. -/
def Cut (w w' : World) (v b n : Nat) (B C : Nat → Int) : Prop := ∃ m b', m ≤ n ∧ (∀ r, m ≤ r → r < n → C r < 0) ∧ At w' v b' m B C ∧ Chg [v] w w' ∧ (b' = b ∨ w.heap.size ≤ b')
set_option maxHeartbeats 1000000 in
set_option maxRecDepth 100000 in
theorem truncate_calls (w : World) (v b n : Nat) (B C : Nat → Int) (h : At w v b n B C) (hn : n ≤ 60000) :
    Calls Try.prog 47 #[.pointer (some ⟨v, 0, none⟩)] w fun e w' => e = .returned (.tuple #[]) ∧ Cut w w' v b n B C := by
  have H := Aside0.mk h
  have h1 := h.cell
  clear h
  go_enter Try.func47, Try.ntmps47
  go_wp2_with fail
  go_loop [2, 3] (fun v2 v3 => ∃ m i : Nat, v2 = .int .i64 m ∧ v3 = .int .i64 i ∧ Aside0 (m + i = n) ∧ Aside0 (∀ r, m ≤ r → r < n → C r < 0)) (fun _ v3 => n - (intOf v3).toNat)
  case atStart => exact ⟨n, 0, rfl, rfl, ⟨rfl⟩, ⟨fun r a b => by omega⟩⟩
  case round =>
    obtain ⟨m, i, rfl, rfl, HMI, HF⟩ := hrel
    have hmi := HMI.out
    have hm1 : m ≤ n := by omega
    have hi1 : i ≤ n := by omega
    by_cases hlt : i < n
    · have h2 := H.out.check (m - 1) (by omega)
      have k1 : (n:Int) - (i:Int) - 1 = ((m - 1 : Nat) : Int) := by omega
      have k2 : decide ((0:Int) ≤ (n:Int) - (i:Int) - 1) = true := decide_eq_true (by omega)
      have k3 : ((n:Int) - (i:Int) - 1).toNat = m - 1 := by omega
      have k4 : (n:Int) - (i:Int) - 1 < (n:Int) := by omega
      have K1 := Aside0.mk k1
      clear k1 hmi
      by_cases hneg : C (m - 1) < 0
      · go_wp2_with fail
        go_round
        case rel =>
          have hmi := HMI.out
          exact ⟨m - 1, i + 1, by simp; omega, by go_num, ⟨by omega⟩, ⟨fun r a b => by
            by_cases e : r = m - 1
            · rw [e]; exact hneg
            · exact HF.out r (by omega) b⟩⟩
        case measure => simp [intOf]; omega
      · have hm0 := HMI.out
        by_cases hmn : m = n
        · have q1 : ((m:Int) == (n:Int)) = true := beq_iff_eq.2 (by omega)
          have q2 : (m == n) = true := beq_iff_eq.2 hmn
          have HMN := Aside0.mk hmn
          clear hmn hm0
          go_wp2_with fail
          (try simp only [Exit.inBlock, Exit.then]); refine bodyPost_ret (results_none rfl _ _ _) rfl ?_
          exact ⟨rfl, m, b, hm1, HF.out, by rw [HMN.out]; exact H.out, Chg.refl _ _, .inl rfl⟩
        · have q1 : ((m:Int) == (n:Int)) = false := beq_eq_false_iff_ne.2 (by omega)
          have q2 : (m == n) = false := beq_eq_false_iff_ne.2 hmn
          clear hm0
          have hlv := H.out.lt.1
          have hlb := H.out.lt.2
          have hle : m ≤ n := by omega
          have HV := Aside0.mk (show Var (w.alloc (.cells #[.slice none 0 0] 51 (0, 0))) w.heap.size 51 (.slice none 0 0) from heap_alloc_new _ _)
          go_upto_region 9 with (at_make; refine wpList_make rfl _ _ _ rfl _ _ 2 8 Try.underlying51 infoS .i64 .i64 (m : Int) (m : Int) rfl rfl (by omega) (by omega) (by omega) (by omega) ?_; intro w2 e2; have E2 := Aside0.mk e2; have HV2 : Aside0 (Var w2 w.heap.size 51 (.slice none 0 0)) := ⟨by rw [e2]; exact HV.out.alloc _⟩; have g1 := HV2.out.cell; have f1 := HV2.out.frozen 0 none; clear e2)
          have HB : Aside0 (w2.heap[w.heap.size + 1]? = some (.cells (row m (fun _ => 0) (fun _ => 0)) 70 (0, 0))) := ⟨by
            have e := E2.out
            rw [e]
            have e3 := heap_alloc_new (w.alloc (.cells #[.slice none 0 0] 51 (0, 0))) (.cells (madeCells #[.int .i32 0, .int .i32 0] (m * 2)) 70)
            rw [size_alloc, row_zero] at e3
            rw [← row_zero]
            rw [← row_zero] at e3
            exact e3⟩
          have HC2 : Aside0 (Chg [v] w w2) := ⟨by rw [E2.out]; exact ((Chg.refl _ _).alloc _).alloc _⟩
          have HA2 : Aside0 (At w2 v b n B C) := ⟨by rw [E2.out]; exact H.out.chg (((Chg.refl [] _).alloc _).alloc _) (by simp) (by simp)⟩
          clear E2 h1
          refine still_tail 8 (by kernel_rfl) (by kernel_rfl) ?_
          intro w3 e3
          have HV3 : Aside0 (Var w3 w.heap.size 51 (.slice (some ⟨w.heap.size + 1, 0, none⟩) m m)) := ⟨by rw [e3]; exact (HV2.out.set _).drew⟩
          have HB3 : Aside0 (w3.heap[w.heap.size + 1]? = some (.cells (row m (fun _ => 0) (fun _ => 0)) 70 (0, 0))) := ⟨by rw [e3]; exact (Below.heap_setCell w2 ⟨w.heap.size, 0, none⟩ _ (w.heap.size + 1) (by show w.heap.size + 1 ≠ w.heap.size; omega)).trans HB.out⟩
          have HC3 : Aside0 (Chg [v] w w3) := ⟨by rw [e3]; exact (HC2.out.setCell (.inr (Nat.le_refl _)) _).drew⟩
          have HA3 : Aside0 (At w3 v b n B C) := ⟨by rw [e3]; exact (HA2.out.setOther (by show v ≠ w.heap.size; omega) (by show b ≠ w.heap.size; omega) _).drew⟩
          clear e3 HV2 HB HC2 HA2 g1 f1
          have h1 := HA3.out.cell
          have g1 := HV3.out.cell
          have g2 : (m:Int) ≤ (n:Int) := by omega
          have g3 : (0:Int) ≤ (m:Int) := by omega
          simp only [List.take_succ_cons, List.take_zero, List.drop_succ_cons, List.drop_zero]
          repeat still_step
          refine wpStill_nil ?_
          (refine wpList_copy_size rfl _ _ _ _ rfl 70 2 Try.underlying51 (by kernel_rfl) (w.heap.size + 1) m m ⟨b, 0, none⟩ m n rfl rfl _ _ HB3.out ((row n B C).toList.take (m * 2)) ?c1 ?c2 ?c3 ?c4 ?_; (case c1 => rw [List.length_take, Array.length_toList, row_size, show Nat.min m m = m from Nat.min_self m]; omega); (case c2 => exact HA3.out.take m hm1); (case c3 => rw [List.length_take, Array.length_toList, row_size, row_size]; omega); (case c4 => exact fun v hv => row_one n B C v (List.mem_of_mem_take hv)); intro w4 e4; have HV4 : Aside0 (Var w4 w.heap.size 51 (.slice (some ⟨w.heap.size + 1, 0, none⟩) m m)) := ⟨by rw [e4]; exact (setRow_other w3 _ _ _ (by omega)).trans HV3.out⟩; have HR4 : Aside0 (w4.heap[w.heap.size + 1]? = some (.cells (row m B C) 70 (0, 0))) := ⟨by rw [e4, setRow_heap w3 _ _ _ _ _ HB3.out, row_cut n m B C hm1]⟩; have HC4 : Aside0 (Chg [v] w w4) := ⟨by rw [e4]; exact HC3.out.setRow (.inr (by omega)) _⟩; have HX4 : Aside0 (Var w4 v 51 (.slice (some ⟨b, 0, none⟩) n n)) := ⟨by rw [e4]; exact (setRow_other w3 _ _ _ (by omega)).trans HA3.out.var⟩; clear e4 HV3 HB3 HC3 HA3 h1 g1; have g1 := HV4.out.cell; have h1 := HX4.out.cell; have f1 := HX4.out.frozen 0 none)
          go_wp2_with fail
          go_end0
          have hsz := HC4.out.size
          exact ⟨rfl, m, w.heap.size + 1, hm1, HF.out, ⟨by omega, HX4.out.set _, (Below.heap_setCell w4 ⟨v, 0, none⟩ _ _ (by show w.heap.size + 1 ≠ v; omega)).trans HR4.out⟩, HC4.out.setCell (.inl (by simp)) _, by right; omega⟩
    · have hm0 : m = 0 := by omega
      by_cases hmn : m = n
      · have q1 : ((m:Int) == (n:Int)) = true := beq_iff_eq.2 (by omega)
        have q2 : (m == n) = true := beq_iff_eq.2 hmn
        have HMN := Aside0.mk hmn
        clear hmn hm0
        go_wp2_with fail
        (try simp only [Exit.inBlock, Exit.then]); refine bodyPost_ret (results_none rfl _ _ _) rfl ?_
        exact ⟨rfl, m, b, hm1, HF.out, by rw [HMN.out]; exact H.out, Chg.refl _ _, .inl rfl⟩
      · have q1 : ((m:Int) == (n:Int)) = false := beq_eq_false_iff_ne.2 (by omega)
        have q2 : (m == n) = false := beq_eq_false_iff_ne.2 hmn
        clear hm0
        have hlv := H.out.lt.1
        have hlb := H.out.lt.2
        have hle : m ≤ n := by omega
        have HV := Aside0.mk (show Var (w.alloc (.cells #[.slice none 0 0] 51 (0, 0))) w.heap.size 51 (.slice none 0 0) from heap_alloc_new _ _)
        go_upto_region 9 with (at_make; refine wpList_make rfl _ _ _ rfl _ _ 2 8 Try.underlying51 infoS .i64 .i64 (m : Int) (m : Int) rfl rfl (by omega) (by omega) (by omega) (by omega) ?_; intro w2 e2; have E2 := Aside0.mk e2; have HV2 : Aside0 (Var w2 w.heap.size 51 (.slice none 0 0)) := ⟨by rw [e2]; exact HV.out.alloc _⟩; have g1 := HV2.out.cell; have f1 := HV2.out.frozen 0 none; clear e2)
        have HB : Aside0 (w2.heap[w.heap.size + 1]? = some (.cells (row m (fun _ => 0) (fun _ => 0)) 70 (0, 0))) := ⟨by
          have e := E2.out
          rw [e]
          have e3 := heap_alloc_new (w.alloc (.cells #[.slice none 0 0] 51 (0, 0))) (.cells (madeCells #[.int .i32 0, .int .i32 0] (m * 2)) 70)
          rw [size_alloc, row_zero] at e3
          rw [← row_zero]
          rw [← row_zero] at e3
          exact e3⟩
        have HC2 : Aside0 (Chg [v] w w2) := ⟨by rw [E2.out]; exact ((Chg.refl _ _).alloc _).alloc _⟩
        have HA2 : Aside0 (At w2 v b n B C) := ⟨by rw [E2.out]; exact H.out.chg (((Chg.refl [] _).alloc _).alloc _) (by simp) (by simp)⟩
        clear E2 h1
        refine still_tail 8 (by kernel_rfl) (by kernel_rfl) ?_
        intro w3 e3
        have HV3 : Aside0 (Var w3 w.heap.size 51 (.slice (some ⟨w.heap.size + 1, 0, none⟩) m m)) := ⟨by rw [e3]; exact (HV2.out.set _).drew⟩
        have HB3 : Aside0 (w3.heap[w.heap.size + 1]? = some (.cells (row m (fun _ => 0) (fun _ => 0)) 70 (0, 0))) := ⟨by rw [e3]; exact (Below.heap_setCell w2 ⟨w.heap.size, 0, none⟩ _ (w.heap.size + 1) (by show w.heap.size + 1 ≠ w.heap.size; omega)).trans HB.out⟩
        have HC3 : Aside0 (Chg [v] w w3) := ⟨by rw [e3]; exact (HC2.out.setCell (.inr (Nat.le_refl _)) _).drew⟩
        have HA3 : Aside0 (At w3 v b n B C) := ⟨by rw [e3]; exact (HA2.out.setOther (by show v ≠ w.heap.size; omega) (by show b ≠ w.heap.size; omega) _).drew⟩
        clear e3 HV2 HB HC2 HA2 g1 f1
        have h1 := HA3.out.cell
        have g1 := HV3.out.cell
        have g2 : (m:Int) ≤ (n:Int) := by omega
        have g3 : (0:Int) ≤ (m:Int) := by omega
        simp only [List.take_succ_cons, List.take_zero, List.drop_succ_cons, List.drop_zero]
        repeat still_step
        refine wpStill_nil ?_
        (refine wpList_copy_size rfl _ _ _ _ rfl 70 2 Try.underlying51 (by kernel_rfl) (w.heap.size + 1) m m ⟨b, 0, none⟩ m n rfl rfl _ _ HB3.out ((row n B C).toList.take (m * 2)) ?c1 ?c2 ?c3 ?c4 ?_; (case c1 => rw [List.length_take, Array.length_toList, row_size, show Nat.min m m = m from Nat.min_self m]; omega); (case c2 => exact HA3.out.take m hm1); (case c3 => rw [List.length_take, Array.length_toList, row_size, row_size]; omega); (case c4 => exact fun v hv => row_one n B C v (List.mem_of_mem_take hv)); intro w4 e4; have HV4 : Aside0 (Var w4 w.heap.size 51 (.slice (some ⟨w.heap.size + 1, 0, none⟩) m m)) := ⟨by rw [e4]; exact (setRow_other w3 _ _ _ (by omega)).trans HV3.out⟩; have HR4 : Aside0 (w4.heap[w.heap.size + 1]? = some (.cells (row m B C) 70 (0, 0))) := ⟨by rw [e4, setRow_heap w3 _ _ _ _ _ HB3.out, row_cut n m B C hm1]⟩; have HC4 : Aside0 (Chg [v] w w4) := ⟨by rw [e4]; exact HC3.out.setRow (.inr (by omega)) _⟩; have HX4 : Aside0 (Var w4 v 51 (.slice (some ⟨b, 0, none⟩) n n)) := ⟨by rw [e4]; exact (setRow_other w3 _ _ _ (by omega)).trans HA3.out.var⟩; clear e4 HV3 HB3 HC3 HA3 h1 g1; have g1 := HV4.out.cell; have h1 := HX4.out.cell; have f1 := HX4.out.frozen 0 none)
        go_wp2_with fail
        go_end0
        have hsz := HC4.out.size
        exact ⟨rfl, m, w.heap.size + 1, hm1, HF.out, ⟨by omega, HX4.out.set _, (Below.heap_setCell w4 ⟨v, 0, none⟩ _ _ (by show w.heap.size + 1 ≠ v; omega)).trans HR4.out⟩, HC4.out.setCell (.inl (by simp)) _, by right; omega⟩
end Go.Proofs.Ytddcjmdcpkmnjab.Da
