/- General words: what has turned between two worlds; a row that is made. General words: rows of one-cell elements that are appended to; maps as lists of keys with values. -/
import Derived.Test.YtpjnebmcbeblkaaDoorProg
import Derived.Test.YtpjnebmcbeblkaaDoorWWords
import Derived.WalkKit
import Derived.ProofKit
import Derived.Below
import Derived.Laws.NewBlocks
import Derived.Laws.MakeOwn
import Derived.OwnWalk
import Derived.Deep.QuietTactic
import Derived.Laws.CopyOwn
import Derived.Maps.AppendAt
import Derived.Maps.OwnOps
import Derived.Maps.OwnSet
import Derived.MapKept
set_option linter.unusedVariables false
namespace Go.Proofs.YtpjnebmcbeblkaaDoor.Gn
open Go.RowKit
theorem heap_alloc_new (w : World) (o : Obj) : (w.alloc o).heap[w.heap.size]? = some o := by
  show (w.heap.push o)[w.heap.size]? = some o
  exact Array.getElem?_push_size
theorem size_alloc (w : World) (o : Obj) : (w.alloc o).heap.size = w.heap.size + 1 := by
  show (w.heap.push o).size = _
  exact Array.size_push _
/-- No block that was there has turned but those of S. -/
structure Chg (S : List Nat) (w w' : World) : Prop where
  os : w'.os = w.os
  tape : w'.tape = w.tape
  output : w'.output = w.output
  size : w.heap.size ≤ w'.heap.size
  block : ∀ k, k < w.heap.size → k ∉ S → w'.heap[k]? = w.heap[k]?
theorem Chg.refl (S : List Nat) (w : World) : Chg S w w := ⟨rfl, rfl, rfl, Nat.le_refl _, fun _ _ _ => rfl⟩
theorem Chg.trans {S : List Nat} {x y z : World} (h : Chg S x y) (k : Chg S y z) : Chg S x z :=
  ⟨k.os.trans h.os, k.tape.trans h.tape, k.output.trans h.output, Nat.le_trans h.size k.size, fun i hi hs => (k.block i (Nat.lt_of_lt_of_le hi h.size) hs).trans (h.block i hi hs)⟩
theorem Chg.mono {S T : List Nat} {x y : World} (h : Chg S x y) (hs : ∀ k ∈ S, k ∈ T) : Chg T x y := ⟨h.os, h.tape, h.output, h.size, fun i hi ht => h.block i hi (fun g => ht (hs i g))⟩
/-- What has turned lies above. -/
theorem Chg.above {S T : List Nat} {x y z : World} (h : Chg T x y) (k : Chg S y z) (hs : ∀ i ∈ S, i ∈ T ∨ x.heap.size ≤ i) : Chg T x z :=
  ⟨k.os.trans h.os, k.tape.trans h.tape, k.output.trans h.output, Nat.le_trans h.size k.size, fun i hi ht =>
    (k.block i (Nat.lt_of_lt_of_le hi h.size) (fun g => by rcases hs i g with g2 | g2; exact ht g2; omega)).trans (h.block i hi ht)⟩
theorem Chg.drew {S : List Nat} {x y : World} (h : Chg S x y) : Chg S x y.drew := ⟨h.os, h.tape, h.output, h.size, h.block⟩
theorem Chg.drewN {S : List Nat} {x y : World} (h : Chg S x y) (k : Nat) : Chg S x (y.drewN k) := ⟨h.os, h.tape, h.output, h.size, h.block⟩
theorem Chg.setCell {S : List Nat} {x y : World} (h : Chg S x y) {a : Addr} (e : a.block ∈ S ∨ x.heap.size ≤ a.block) (u : Value) : Chg S x (y.setCell a u) :=
  ⟨h.os, h.tape, h.output, by have := h.size; simpa [World.setCell] using this, fun k hk hs => (Below.heap_setCell y a u k (fun g => by subst g; rcases e with e | e; exact hs e; omega)).trans (h.block k hk hs)⟩
theorem Chg.alloc {S : List Nat} {x y : World} (h : Chg S x y) (o : Obj) : Chg S x (y.alloc o) :=
  ⟨h.os, h.tape, h.output, by rw [size_alloc]; have := h.size; omega, fun k hk hs => (Below.heap_alloc y o k (Nat.lt_of_lt_of_le hk h.size)).trans (h.block k hk hs)⟩
theorem Chg.below {x y : World} (h : Below x.heap.size x y) : Chg [] x y := ⟨h.os, h.tape, h.output, h.size, fun k hk _ => h.block k hk⟩
theorem Chg.toBelow {S : List Nat} {B : Nat} {x y : World} (h : Chg S x y) (hB : B ≤ x.heap.size) (hs : ∀ k ∈ S, B ≤ k) : Below B x y := ⟨h.os, h.tape, h.output, h.size, fun k hk => h.block k (by omega) (fun g => by have := hs k g; omega)⟩
/-- A block that holds one value: a variable. -/
def Var (w : World) (v : Nat) (t : TypeId) (x : Value) : Prop := w.heap[v]? = some (.cells #[x] t (0, 0))
theorem Var.lt {w : World} {v : Nat} {t : TypeId} {x : Value} (h : Var w v t x) : v < w.heap.size := (Array.getElem?_eq_some_iff.1 h).1
theorem Var.cell {w : World} {v : Nat} {t : TypeId} {x : Value} (h : Var w v t x) : w.cell? ⟨v, 0, none⟩ = some x := by
  unfold Var at h; simp [World.cell?, h]
theorem Var.frozen {w : World} {v : Nat} {t : TypeId} {x : Value} (h : Var w v t x) (o : Nat) (s : Option Nat) : w.frozen? ⟨v, o, s⟩ = false := by
  unfold Var at h; simp [World.frozen?, h]
theorem heap_put (w : World) (a : Addr) (c : Array Value) (T : TypeId) (f : Nat × Nat) (x : Value) (h : w.heap[a.block]? = some (.cells c T f)) (hs : a.spot = none) : (w.setCell a x).heap[a.block]? = some (.cells (c.setIfInBounds a.off x) T f) := by
  have hlt := (Array.getElem?_eq_some_iff.1 h).1
  have h2 := (Array.getElem?_eq_some_iff.1 h).2
  show (w.heap.modify a.block _)[a.block]? = _
  rw [Array.getElem?_eq_getElem (by simpa using hlt), Array.getElem_modify_self, h2]
  simp [hs]
theorem Var.set {w : World} {v : Nat} {t : TypeId} {x : Value} (h : Var w v t x) (y : Value) : Var (w.setCell ⟨v, 0, none⟩ y) v t y := by
  have := heap_put w ⟨v, 0, none⟩ _ _ _ y h rfl
  unfold Var
  rw [this]
  rfl
theorem Var.setOther {w : World} {v : Nat} {t : TypeId} {x : Value} (h : Var w v t x) {a : Addr} (ha : v ≠ a.block) (y : Value) : Var (w.setCell a y) v t x := (Below.heap_setCell w a y v ha).trans h
theorem Var.alloc {w : World} {v : Nat} {t : TypeId} {x : Value} (h : Var w v t x) (o : Obj) : Var (w.alloc o) v t x := (Below.heap_alloc w o v h.lt).trans h
theorem Var.drewN {w : World} {v : Nat} {t : TypeId} {x : Value} (h : Var w v t x) (k : Nat) : Var (w.drewN k) v t x := h
theorem Var.drew {w : World} {v : Nat} {t : TypeId} {x : Value} (h : Var w v t x) : Var w.drew v t x := h
theorem Var.chg {S : List Nat} {w w' : World} {v : Nat} {t : TypeId} {x : Value} (h : Var w v t x) (hc : Chg S w w') (hs : v ∉ S) : Var w' v t x := (hc.block v h.lt hs).trans h
theorem size_setCell (w : World) (a : Addr) (x : Value) : (w.setCell a x).heap.size = w.heap.size := by simp [World.setCell]
/-- 'make([]T, n, m)'. -/
theorem wpList_make {P : Program} {w : World} {ops : Array Oper} {rest : List Oper} {o : Oper} {a : Act} {Q : Exit → Act → World → Prop} (hg : o.guard = none) (l c : Operand) (t : TypeId) (hop : o.op = Op.makeSlice t l c)
    (e : TypeId) (z : Value) (size bytes : Nat) (h1 : P.underlying t = some (.slice e)) (h2 : (P.info? e).map (fun i => (i.zero, i.size, i.bytes)) = some (some z, size, bytes))
    (kl kc : IntKind) (L C : Int) (hl : a.eval l = .int kl L) (hc : a.eval c = .int kc C) (h0 : 0 ≤ L) (hLC : L ≤ C) (hb : (bytes : Int) * C ≤ 281474976710656) (hC : C ≤ 9223372036854775807)
    (hK : ∀ w2, w2 = w.alloc (.cells (madeCells z.cells (C.toNat * size)) e) → wpList P ops Q rest (a.put o.dst (.slice (some ⟨w.heap.size, 0, none⟩) L.toNat C.toNat)) w2) :
    wpList P ops Q (o :: rest) a w := by
  refine wpList_plain hg fun K hK' => ?_
  obtain ⟨i, hi, hzz⟩ := Option.map_eq_some_iff.1 h2
  simp only [Prod.mk.injEq] at hzz
  obtain ⟨z1, z2, z3⟩ := hzz
  have hr := run_make (P := P) w t e i z h1 hi z1 kl kc L C h0 hLC (by rw [z3]; exact hb) hC
  rw [z2] at hr
  unfold Oper.wp
  simp [execOp, hop, hl, hc, hr, Result.andThen]
  exact hK' _ _ (hK _ rfl)
/-- 'copy' of elements of several cells over a whole row. -/
theorem run_copy_size {P : Program} (w : World) (dT sT ty elem : TypeId) (g dLen dCap : Nat) (a : Addr) (sLen sCap : Nat) (cur : Array Value) (t : TypeId) (cs : List Value) (s : Nat)
    (hu : P.underlying dT = some (.slice elem)) (hs : (P.info? elem).map (·.size) = some s)
    (hg : w.heap[g]? = some (.cells cur t (0, 0))) (hn : cs.length = Nat.min sLen dLen * s)
    (hsrc : ∀ j v, cs[j]? = some v → w.cell? (a.add j) = some v) (hfit : cs.length = cur.size) (h1 : ∀ v ∈ cs, v.oneCell' = true) :
    (Builtin.copy_ #[dT, sT] ty #[.slice (some ⟨g, 0, none⟩) dLen dCap, .slice (some a) sLen sCap]).run P w =
      .ok (goInt (Nat.min sLen dLen)) (w.setRow g cs.toArray) := by
  have hl := run_loadCells_list (P := P) w a cs hsrc
  have hst := run_storeCells_at P g 0 t cs 0 cur w hg (by simp; omega) h1
  rw [hfit] at hst
  simp only [Nat.zero_add, Nat.add_zero, List.take_zero, List.nil_append] at hst
  rw [List.drop_of_length_le (by simp), List.append_nil] at hst
  rw [hn] at hl
  cases hq : P.info? elem with
  | none => simp [hq] at hs
  | some i =>
    have hi : i.size = s := by simpa [hq] using hs
    simp [Builtin.copy_, run_underlying hu, Builtin.lenOf, Builtin.firstCells, sizeOf, typeInfo, hq, hi, hl, hst]
theorem wpList_copy_size {P : Program} {w : World} {ops : Array Oper} {rest : List Oper} {o : Oper} {a : Act} {Q : Exit → Act → World → Prop} (hgd : o.guard = none) (d s : Operand) (dT sT : TypeId)
    (ho : o.op = .call { callee := .builtin .copy, args := #[d, s], argTypes := #[dT, sT] }) (elem : TypeId) (z : Nat) (hu : P.underlying dT = some (.slice elem)) (hsz : (P.info? elem).map (·.size) = some z)
    (g dLen dCap : Nat) (ad : Addr) (sLen sCap : Nat) (hd : a.eval d = .slice (some ⟨g, 0, none⟩) dLen dCap) (hs : a.eval s = .slice (some ad) sLen sCap)
    (cur : Array Value) (t : TypeId) (hg : w.heap[g]? = some (.cells cur t (0, 0))) (cs : List Value) (hn : cs.length = Nat.min sLen dLen * z)
    (hsrc : ∀ j v, cs[j]? = some v → w.cell? (ad.add j) = some v) (hfit : cs.length = cur.size) (h1 : ∀ v ∈ cs, v.oneCell' = true)
    (h : ∀ w2, w2 = w.setRow g cs.toArray → wpList P ops Q rest (a.put o.dst (goInt (Nat.min sLen dLen))) w2) : wpList P ops Q (o :: rest) a w := by
  refine wpList_plain hgd fun K hK => ?_
  have hrun := run_copy_size (P := P) w dT sT o.type elem g dLen dCap ad sLen sCap cur t cs z hu hsz hg hn hsrc hfit h1
  unfold Oper.wp
  simp [execOp, ho, resolve, invoke, builtin, hd, hs, hrun, Result.andThen]
  exact hK _ _ (h _ rfl)
theorem Chg.setRow {S : List Nat} {x y : World} (h : Chg S x y) {g : Nat} (e : g ∈ S ∨ x.heap.size ≤ g) (cs : Array Value) : Chg S x (y.setRow g cs) :=
  ⟨h.os, h.tape, h.output, by have := h.size; simpa [World.setRow] using this, fun k hk hs => (setRow_other y g k cs (fun q => by subst q; rcases e with e | e; exact hs e; omega)).trans (h.block k hk hs)⟩
end Go.Proofs.YtpjnebmcbeblkaaDoor.Gn
namespace Go.Proofs.YtpjnebmcbeblkaaDoor.Gn
open Go.RowKit Go.Instr
/-- The slice v (nil, or at the head of a block of its own) holds xs. -/
def ORow (w : World) (e : Nat) (v : Value) (xs : List Value) : Prop := w.ownsRow 0 e 1 v xs.length xs
theorem ORow.nil (w : World) (e : Nat) : ORow w e (.slice none 0 0) [] := ⟨rfl, .inl ⟨rfl, rfl⟩⟩
theorem ORow.parts {w : World} {e : Nat} {v : Value} {xs : List Value} (h : ORow w e v xs) : (v = .slice none 0 0 ∧ xs = []) ∨
    ∃ g cap cur, v = .slice (some ⟨g, 0, none⟩) xs.length cap ∧ w.heap[g]? = some (.cells cur e (0, 0)) ∧ xs.length ≤ cap ∧ cap ≤ maxLen ∧ cur.size = cap ∧ cur.toList.take xs.length = xs := by
  obtain ⟨_, ⟨h1, h2⟩ | ⟨g, cap, cur, h1, _, h2, h3, h4, h5, h6⟩⟩ := h
  · exact .inl ⟨h1, List.eq_nil_of_length_eq_zero h2⟩
  · exact .inr ⟨g, cap, cur, h1, h2, h3, h4, by simpa using h5, by simpa using h6⟩
theorem ORow.of {w : World} {e g cap : Nat} {cur : Array Value} {xs : List Value} (h2 : w.heap[g]? = some (.cells cur e (0, 0))) (h3 : xs.length ≤ cap) (h4 : cap ≤ maxLen) (h5 : cur.size = cap) (h6 : cur.toList.take xs.length = xs) : ORow w e (.slice (some ⟨g, 0, none⟩) xs.length cap) xs :=
  ⟨by simp, .inr ⟨g, cap, cur, rfl, Nat.zero_le _, h2, h3, h4, by simpa using h5, by simpa using h6⟩⟩
theorem ORow.chg {S : List Nat} {w w' : World} {e : Nat} {v : Value} {xs : List Value} (h : ORow w e v xs) (hc : Chg S w w') (hs : ∀ g, v.ownBlock = some g → g ∉ S) : ORow w' e v xs := by
  rcases h.parts with ⟨rfl, rfl⟩ | ⟨g, cap, cur, rfl, h2, h3, h4, h5, h6⟩
  · exact ORow.nil _ _
  · exact ORow.of ((hc.block g (Array.getElem?_eq_some_iff.1 h2).1 (hs g rfl)).trans h2) h3 h4 h5 h6
theorem ORow.block {w : World} {e : Nat} {v : Value} {xs : List Value} (h : ORow w e v xs) {g : Nat} (hg : v.ownBlock = some g) : g < w.heap.size ∧ ∃ cur, w.heap[g]? = some (.cells cur e (0, 0)) := by
  rcases h.parts with ⟨rfl, rfl⟩ | ⟨g2, cap, cur, rfl, h2, h3, h4, h5, h6⟩
  · cases hg
  · injection hg with hg
    dsimp only at hg
    subst hg
    exact ⟨(Array.getElem?_eq_some_iff.1 h2).1, cur, h2⟩
theorem ORow.slice {w : World} {e : Nat} {v : Value} {xs : List Value} (h : ORow w e v xs) : ∃ A cap, v = .slice A xs.length cap ∧ xs.length ≤ cap ∧ (xs ≠ [] → ∃ g, A = some ⟨g, 0, none⟩) ∧ (A = none → xs = [] ∧ cap = 0) := by
  rcases h.parts with ⟨rfl, rfl⟩ | ⟨g2, cap, cur, rfl, h2, h3, h4, h5, h6⟩
  · exact ⟨none, 0, rfl, Nat.le_refl _, fun h => absurd rfl h, fun _ => ⟨rfl, rfl⟩⟩
  · exact ⟨_, cap, rfl, h3, fun _ => ⟨g2, rfl⟩, fun h => by cases h⟩
theorem ORow.cell {w : World} {e g n cap : Nat} {xs : List Value} (h : ORow w e (.slice (some ⟨g, 0, none⟩) n cap) xs) (i : Nat) (hi : i < xs.length) : w.cell? ⟨g, i, none⟩ = some xs[i] := by
  rcases h.parts with ⟨h1, rfl⟩ | ⟨g2, cap, cur, h1, h2, h3, h4, h5, h6⟩
  · cases h1
  · injection h1 with h1 _ _
    injection h1 with h1
    injection h1 with h1
    subst h1
    have h7 : cur[i]? = some xs[i] := by
      have : (cur.toList.take xs.length)[i]? = some xs[i] := by rw [h6]; exact List.getElem?_eq_getElem hi
      rw [List.getElem?_take, if_pos hi] at this
      simpa using this
    simp [World.cell?, h2, h7]
theorem grownBy_chg {w w' : World} {row : Option Nat} (h : w.grownBy w' row) : Chg row.toList w w' :=
  ⟨h.os, h.tape, h.output, h.size, fun k hk hs => h.block k hk (fun e => hs (by rw [← e]; simp))⟩
/-- 'append(s, y)' where s is a row of its own. -/
theorem wpList_append1 {P : Program} {w : World} {ops : Array Oper} {rest : List Oper} {o : Oper} {a : Act} {Q : Exit → Act → World → Prop} (hgd : o.guard = none) (s x : Operand) (t : TypeId)
    (ho : o.op = .call { callee := .builtin .append, args := #[s, x], argTypes := #[t, t] })
    (e : TypeId) (z : Value) (bytes : Nat) (ht : P.underlying t = some (.slice e)) (hi : (P.info? e).map (fun i => (i.zero, i.size, i.bytes)) = some (some z, 1, bytes)) (hzs : z.cells.size = 1)
    (v : Value) (xs : List Value) (hs : a.eval s = v) (hown : ORow w e v xs)
    (g : Nat) (y : Value) (hx : a.eval x = .slice (some ⟨g, 0, none⟩) 1 1) (hy : w.cell? ⟨g, 0, none⟩ = some y) (h1 : y.oneCell' = true)
    (hl : (xs.length + 1) * bytes ≤ 140737488355328) (hl2 : xs.length < maxLen)
    (h : ∀ v' w', ORow w' e v' (xs ++ [y]) → Chg v.ownBlock.toList w w' → (v'.ownBlock = v.ownBlock ∨ v'.ownBlock = some w.heap.size) → wpList P ops Q rest (a.put o.dst v') w') :
    wpList P ops Q (o :: rest) a w := by
  obtain ⟨i, hi1, hi2, hi3, hi4⟩ := info_parts hi
  refine wpList_append_own_at w hgd s x t ho 0 e i z 1 bytes ht hi1 hi2 hi3 hi4 hzs (by omega) v xs.length xs hs hown ⟨g, 0, none⟩ 1 1 [y] hx rfl (fun j u hj => ?_) (fun u hu => ?_) (by unfold maxLen at *; omega) hl (Nat.zero_le _) ?_
  · have : j = 0 := by
      rcases j with _ | j
      · rfl
      · simp at hj
    subst this
    have : u = y := by simpa using hj.symm
    rw [this]
    exact hy
  · rw [List.mem_singleton.1 hu]; exact h1
  · intro v' w' h2 h3 _ h5
    exact h v' w' (by unfold ORow; simpa using h2) (grownBy_chg h3) h5

/-- What is asked of a kind of keys. -/
structure KeyOk {α : Type} (P : Program) (kt : TypeId) (enc : α → Value) [DecidableEq α] : Prop where
  same : ∃ d, P.underlying kt = some d ∧ ∀ a b, sameNow d (enc a) (enc b) = some (decide (a = b))
  check : ∀ e a w, (checkKey e 10000 kt (enc a)).run P w = .ok () w
  bits : ∀ a, sameBits 10000 (enc a) (enc a) = true
section
variable {α : Type}
def kv (e : MapEntry) : Value × Value := (e.key, e.val)
/-- Block r is a map with these keys and values. -/
def MapAt (w : World) (r : Nat) (enc : α → Value) (S : List (α × Value)) : Prop :=
  ∃ es c, w.heap[r]? = some (.map es c) ∧ es.toList.map kv = S.map (fun p => (enc p.1, p.2))
theorem MapAt.lt {w : World} {r : Nat} {enc : α → Value} {S : List (α × Value)} (h : MapAt w r enc S) : r < w.heap.size := by
  obtain ⟨es, c, h, _⟩ := h
  exact (Array.getElem?_eq_some_iff.1 h).1
theorem MapAt.chg {T : List Nat} {w w' : World} {r : Nat} {enc : α → Value} {S : List (α × Value)} (h : MapAt w r enc S) (hc : Chg T w w') (hs : r ∉ T) : MapAt w' r enc S := by
  obtain ⟨es, c, h1, h2⟩ := h
  exact ⟨es, c, (hc.block r (Array.getElem?_eq_some_iff.1 h1).1 hs).trans h1, h2⟩
theorem MapAt.new (w : World) (enc : α → Value) : MapAt (w.alloc (.map #[] 0)) w.heap.size enc [] := ⟨#[], 0, heap_alloc_new _ _, rfl⟩
variable [DecidableEq α]
def getL (S : List (α × Value)) (k : α) : Option Value := (S.find? (fun p => p.1 = k)).map (·.2)
def putL : List (α × Value) → α → Value → List (α × Value)
  | [], k, v => [(k, v)]
  | p :: S, k, v => if p.1 = k then (k, v) :: S else p :: putL S k v
theorem getL_putL (S : List (α × Value)) (k k' : α) (v : Value) : getL (putL S k v) k' = if k' = k then some v else getL S k' := by
  induction S with
  | nil =>
    unfold putL getL
    by_cases e : k' = k
    · subst e; simp
    · rw [if_neg e]
      have : ¬ k = k' := fun g => e g.symm
      simp [this]
  | cons p S ih =>
    unfold putL
    by_cases e : p.1 = k
    · rw [if_pos e]
      by_cases e2 : k' = k
      · subst e2; simp [getL]
      · rw [if_neg e2]
        have h1 : ¬ k = k' := fun g => e2 g.symm
        have h2 : ¬ p.1 = k' := fun g => e2 (by rw [← g, e])
        simp [getL, h1, h2]
    · rw [if_neg e]
      by_cases e2 : p.1 = k'
      · have h1 : ¬ k' = k := fun g => e (by rw [e2, g])
        rw [if_neg h1]
        simp [getL, e2]
      · have h3 : getL (p :: putL S k v) k' = getL (putL S k v) k' := by simp [getL, e2]
        have h4 : getL (p :: S) k' = getL S k' := by simp [getL, e2]
        rw [h3, h4, ih]
theorem find_spec {P : Program} {kt : TypeId} {enc : α → Value} {d : TypeDesc} (hd : ∀ a b, sameNow d (enc a) (enc b) = some (decide (a = b))) (k : α) (v : Value) :
    ∀ (es : List MapEntry) (S : List (α × Value)) (i0 : Nat), es.map kv = S.map (fun p => (enc p.1, p.2)) →
      ∃ r, findNow d (enc k) es i0 = some r ∧
        (match r with
          | none => getL S k = none ∧ ∀ b, (es ++ [({ key := enc k, val := v, born := b } : MapEntry)]).map kv = (putL S k v).map (fun p => (enc p.1, p.2))
          | some (i, x) => i0 ≤ i ∧ getL S k = some x ∧ (∃ e, es[i - i0]? = some e ∧ e.key = enc k) ∧ (es.modify (i - i0) (fun e : MapEntry => { e with key := enc k, val := v })).map kv = (putL S k v).map (fun p => (enc p.1, p.2))) := by
  intro es
  induction es with
  | nil =>
    intro S i0 h
    have : S = [] := by simpa using h.symm
    subst this
    exact ⟨none, rfl, rfl, fun b => rfl⟩
  | cons e es ih =>
    intro S i0 h
    cases S with
    | nil => cases h
    | cons p S =>
      simp only [List.map_cons, List.cons.injEq, kv, Prod.mk.injEq] at h
      obtain ⟨⟨h1, h2⟩, h3⟩ := h
      unfold findNow
      rw [h1, hd]
      by_cases e1 : k = p.1
      · rw [decide_eq_true e1]
        refine ⟨some (i0, e.val), rfl, Nat.le_refl _, ?_, ⟨e, by simp, by rw [h1, e1]⟩, ?_⟩
        · simp [getL, e1, h2]
        · simp [putL, e1, List.modify, h3, kv]
      · rw [decide_eq_false e1]
        obtain ⟨r, r1, r2⟩ := ih S (i0 + 1) h3
        refine ⟨r, r1, ?_⟩
        have e2 : ¬ p.1 = k := fun g => e1 g.symm
        have hg : getL (p :: S) k = getL S k := by simp [getL, e2]
        have hp : putL (p :: S) k v = p :: putL S k v := by simp only [putL]; rw [if_neg e2]
        rw [hg, hp]
        cases r with
        | none => exact ⟨r2.1, fun b => by have := r2.2 b; rw [List.cons_append, List.map_cons, List.map_cons, this]; unfold kv; rw [h1, h2]⟩
        | some q =>
          obtain ⟨i, x⟩ := q
          obtain ⟨a1, a2, ⟨e3, a3, a4⟩, a5⟩ := r2
          have ei : i - i0 = (i - (i0 + 1)) + 1 := by omega
          refine ⟨by omega, a2, ⟨e3, by rw [ei]; simpa using a3, a4⟩, ?_⟩
          rw [ei]
          rw [List.modify_succ_cons, List.map_cons, List.map_cons, a5]
          unfold kv; rw [h1, h2]
theorem run_lookup {P : Program} {w : World} {r : Nat} {enc : α → Value} {S : List (α × Value)} (h : MapAt w r enc S) {t kt et : TypeId} (K : KeyOk P kt enc) (ht : P.underlying t = some (.map kt et)) (k : α) (ok : Bool) (z : Value) (hz : (zeroValue et).run P w = .ok z w) :
    (lookup t (.map (some r)) (enc k) ok).run P w = .ok (if ok then .tuple #[(getL S k).getD z, .bool (getL S k).isSome] else (getL S k).getD z) w := by
  obtain ⟨es, c, h1, h2⟩ := h
  obtain ⟨d, hd1, hd2⟩ := K.same
  obtain ⟨f, f1, f2⟩ := find_spec (P := P) (kt := kt) hd2 k z es.toList S 0 h2
  have hgo : (getObj r).run P w = .ok (.map es c) w := by simp [getObj, Sem.run, h1]
  cases f with
  | none =>
    have hn := f2.1
    simp [lookup, run_underlying ht, hgo, K.check, findKey, run_underlying hd1, f1, hz, hn]
  | some q =>
    obtain ⟨i, x⟩ := q
    have hn := f2.2.1
    simp [lookup, run_underlying ht, hgo, K.check, findKey, run_underlying hd1, f1, hn]
theorem run_mapUpdate {P : Program} {w : World} {r : Nat} {enc : α → Value} {S : List (α × Value)} (h : MapAt w r enc S) {t kt et : TypeId} (K : KeyOk P kt enc) (ht : P.underlying t = some (.map kt et)) (k : α) (v : Value) :
    ∃ w', (mapUpdate t (.map (some r)) (enc k) v).run P w = .ok () w' ∧ MapAt w' r enc (putL S k v) ∧ Chg [r] w w' ∧ w'.heap.size = w.heap.size := by
  obtain ⟨es, c, h1, h2⟩ := h
  obtain ⟨d, hd1, hd2⟩ := K.same
  obtain ⟨f, f1, f2⟩ := find_spec (P := P) (kt := kt) hd2 k v es.toList S 0 h2
  have hlt := (Array.getElem?_eq_some_iff.1 h1).1
  have hgo : (getObj r).run P w = .ok (.map es c) w := by simp [getObj, Sem.run, h1]
  have hset : ∀ o, (setObj r o).run P w = .ok () { w with heap := w.heap.setIfInBounds r o } := fun o => by simp [setObj, Sem.run, h1]
  have hchg : ∀ o, Chg [r] w { w with heap := w.heap.setIfInBounds r o } := fun o => ⟨rfl, rfl, rfl, by simp, fun j hj hs => by
    have : r ≠ j := fun g => hs (by simp [g])
    simp [this]⟩
  cases f with
  | none =>
    refine ⟨{ w with heap := w.heap.setIfInBounds r (.map (es.push { key := enc k, val := v, born := c }) (c + 1)) }, ?_, ⟨es.push { key := enc k, val := v, born := c }, c + 1, by simp [hlt], ?_⟩, hchg _, by simp⟩
    · simp [mapUpdate, run_underlying ht, hgo, K.check, findKey, run_underlying hd1, f1, hset]
    · rw [Array.toList_push]
      exact f2.2 c
  | some q =>
    obtain ⟨i, x⟩ := q
    obtain ⟨a1, a2, ⟨e3, a3, a4⟩, a5⟩ := f2
    simp only [Nat.sub_zero] at a3 a5
    have hk : (((es[i]?).map (·.key)).getD (enc k)) = enc k := by
      rw [← Array.getElem?_toList, a3]
      simpa using a4
    have hst : (keyThatStays (enc k) (enc k)).run P w = .ok (enc k) w := by
      unfold keyThatStays
      rw [if_pos (K.bits k)]
      rfl
    refine ⟨{ w with heap := w.heap.setIfInBounds r (.map (es.modify i (fun e : MapEntry => { e with key := enc k, val := v })) c) }, ?_, ⟨_, c, by simp [hlt]; rfl, ?_⟩, hchg _, by simp⟩
    · simp [mapUpdate, run_underlying ht, hgo, K.check, findKey, run_underlying hd1, f1, hk, hst, hset]
    · simpa using a5
theorem wpList_lookup {P : Program} {w : World} {ops : Array Oper} {rest : List Oper} {o : Oper} {a : Act} {Q : Exit → Act → World → Prop} (hgd : o.guard = none) (m x : Operand) (t : TypeId) (ok : Bool) (ho : o.op = .lookup t m x ok)
    {r : Nat} {enc : α → Value} {S : List (α × Value)} (hm : a.eval m = .map (some r)) (k : α) (hx : a.eval x = enc k) (h : MapAt w r enc S) {kt et : TypeId} (K : KeyOk P kt enc) (ht : P.underlying t = some (.map kt et)) (z : Value) (hz : ∀ w, (zeroValue et).run P w = .ok z w)
    (hK : wpList P ops Q rest (a.put o.dst (if ok then .tuple #[(getL S k).getD z, .bool (getL S k).isSome] else (getL S k).getD z)) w) :
    wpList P ops Q (o :: rest) a w := by
  refine wpList_plain hgd fun K' hK' => ?_
  have hr := run_lookup h K ht k ok z (hz w)
  unfold Oper.wp
  simp [execOp, ho, hm, hx, hr, Result.andThen]
  exact hK' _ _ hK
theorem wpList_mapUpdate {P : Program} {w : World} {ops : Array Oper} {rest : List Oper} {o : Oper} {a : Act} {Q : Exit → Act → World → Prop} (hgd : o.guard = none) (m x y : Operand) (t : TypeId) (ho : o.op = .mapUpdate t m x y)
    {r : Nat} {enc : α → Value} {S : List (α × Value)} (hm : a.eval m = .map (some r)) (k : α) (hx : a.eval x = enc k) (v : Value) (hy : a.eval y = v) (h : MapAt w r enc S) {kt et : TypeId} (K : KeyOk P kt enc) (ht : P.underlying t = some (.map kt et))
    (hK : ∀ w', MapAt w' r enc (putL S k v) → Chg [r] w w' → w'.heap.size = w.heap.size → wpList P ops Q rest (a.put o.dst undef) w') :
    wpList P ops Q (o :: rest) a w := by
  refine wpList_plain hgd fun K' hK' => ?_
  obtain ⟨w', hr, h1, h2, h3⟩ := run_mapUpdate h K ht k v
  unfold Oper.wp
  simp [execOp, ho, hm, hx, hy, hr, Result.andThen]
  exact hK' _ _ (hK w' h1 h2 h3)
end
theorem check_int {P : Program} {kt : TypeId} {kk : IntKind} (h : P.underlying kt = some (.int kk)) (e : Bool) (n : Nat) (a : Value) (w : World) : (checkKey e (n + 1) kt a).run P w = .ok () w := by
  simp [checkKey, run_underlying h]
theorem check_str {P : Program} {kt : TypeId} (h : P.underlying kt = some .string) (e : Bool) (n : Nat) (a : Value) (w : World) : (checkKey e (n + 1) kt a).run P w = .ok () w := by
  simp [checkKey, run_underlying h]
theorem bits_int (n : Nat) (kk : IntKind) (a : Int) : sameBits n (.int kk a) (.int kk a) = true := by cases n <;> simp [sameBits]
theorem beq_bytes (a b : ByteArray) : (a == b) = decide (a = b) := by
  rw [Bool.eq_iff_iff, Go.MapKept.bytes_beq, decide_eq_true_iff]
theorem bits_str (n : Nat) (a : ByteArray) : sameBits n (.string a) (.string a) = true := by cases n <;> simp [sameBits, beq_bytes]
theorem keyInt {P : Program} {kt : TypeId} {kk : IntKind} (h : P.underlying kt = some (.int kk)) : KeyOk P kt (fun n : Int => Value.int kk n) := by
  refine ⟨⟨_, h, fun a b => ?_⟩, fun e a w => check_int h e 9999 _ w, fun a => bits_int _ _ _⟩
  simp only [sameNow, if_true]
  by_cases e : a = b
  · subst e; simp
  · simp [e]
theorem keyStr {P : Program} {kt : TypeId} (h : P.underlying kt = some .string) : KeyOk P kt (fun s : ByteArray => Value.string s) := by
  refine ⟨⟨_, h, fun a b => ?_⟩, fun e a w => check_str h e 9999 _ w, fun a => bits_str _ _⟩
  simp only [sameNow, beq_bytes]
end Go.Proofs.YtpjnebmcbeblkaaDoor.Gn
