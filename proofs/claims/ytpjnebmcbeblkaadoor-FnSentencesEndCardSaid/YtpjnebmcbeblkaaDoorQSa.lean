/- General words: what has turned between two worlds; a row that is made. General words: rows of one-cell elements that are appended to; maps as lists of keys with values. What the laid tables give: the tables of UTF-8 and of white space; a world that holds them. Sentences: what one call of ScanSentences does, on bytes; plain. Bytes in a window of a block of the call's own: read, written, decoded. -/
import Derived.Test.YtpjnebmcbeblkaaDoorProg
import Derived.Test.YtpjnebmcbeblkaaDoorWWords
import Derived.WalkKit
import Derived.ProofKit
import Derived.Below
import Derived.Laws.NewBlocks
import Derived.Laws.MakeOwn
import Derived.OwnWalk
import Derived.Deep.QuietTactic
import Derived.Laws.CopyOwn
import Derived.Maps.AppendAt
import Derived.Maps.OwnOps
import Derived.Maps.OwnSet
import Derived.MapKept
import Derived.Test.YtpjnebmcbeblkaaDoorRows
import Derived.Test.YtpjnebmcbeblkaaDoorShelf
import Derived.Shelf.Lays7
import Derived.Shelf.Spec.DecodeRune
import Derived.Shelf.Spec.NilArms
import Derived.Lib.LaidU8
import Derived.Lib.LaidU8T
import Derived.PinnedBridge
import Derived.Lay
import Derived.LaidMore
import Derived.LaidHandle
import Derived.HandedShaped
set_option linter.unusedVariables false
namespace Go.Proofs.YtpjnebmcbeblkaaDoor.Gn
open Go.RowKit
theorem heap_alloc_new (w : World) (o : Obj) : (w.alloc o).heap[w.heap.size]? = some o := by
  show (w.heap.push o)[w.heap.size]? = some o
  exact Array.getElem?_push_size
theorem size_alloc (w : World) (o : Obj) : (w.alloc o).heap.size = w.heap.size + 1 := by
  show (w.heap.push o).size = _
  exact Array.size_push _
/-- No block that was there has turned but those of S. -/
structure Chg (S : List Nat) (w w' : World) : Prop where
  os : w'.os = w.os
  tape : w'.tape = w.tape
  output : w'.output = w.output
  size : w.heap.size ≤ w'.heap.size
  block : ∀ k, k < w.heap.size → k ∉ S → w'.heap[k]? = w.heap[k]?
theorem Chg.refl (S : List Nat) (w : World) : Chg S w w := ⟨rfl, rfl, rfl, Nat.le_refl _, fun _ _ _ => rfl⟩
theorem Chg.trans {S : List Nat} {x y z : World} (h : Chg S x y) (k : Chg S y z) : Chg S x z :=
  ⟨k.os.trans h.os, k.tape.trans h.tape, k.output.trans h.output, Nat.le_trans h.size k.size, fun i hi hs => (k.block i (Nat.lt_of_lt_of_le hi h.size) hs).trans (h.block i hi hs)⟩
theorem Chg.mono {S T : List Nat} {x y : World} (h : Chg S x y) (hs : ∀ k ∈ S, k ∈ T) : Chg T x y := ⟨h.os, h.tape, h.output, h.size, fun i hi ht => h.block i hi (fun g => ht (hs i g))⟩
/-- What has turned lies above. -/
theorem Chg.above {S T : List Nat} {x y z : World} (h : Chg T x y) (k : Chg S y z) (hs : ∀ i ∈ S, i ∈ T ∨ x.heap.size ≤ i) : Chg T x z :=
  ⟨k.os.trans h.os, k.tape.trans h.tape, k.output.trans h.output, Nat.le_trans h.size k.size, fun i hi ht =>
    (k.block i (Nat.lt_of_lt_of_le hi h.size) (fun g => by rcases hs i g with g2 | g2; exact ht g2; omega)).trans (h.block i hi ht)⟩
theorem Chg.drew {S : List Nat} {x y : World} (h : Chg S x y) : Chg S x y.drew := ⟨h.os, h.tape, h.output, h.size, h.block⟩
theorem Chg.drewN {S : List Nat} {x y : World} (h : Chg S x y) (k : Nat) : Chg S x (y.drewN k) := ⟨h.os, h.tape, h.output, h.size, h.block⟩
theorem Chg.setCell {S : List Nat} {x y : World} (h : Chg S x y) {a : Addr} (e : a.block ∈ S ∨ x.heap.size ≤ a.block) (u : Value) : Chg S x (y.setCell a u) :=
  ⟨h.os, h.tape, h.output, by have := h.size; simpa [World.setCell] using this, fun k hk hs => (Below.heap_setCell y a u k (fun g => by subst g; rcases e with e | e; exact hs e; omega)).trans (h.block k hk hs)⟩
theorem Chg.alloc {S : List Nat} {x y : World} (h : Chg S x y) (o : Obj) : Chg S x (y.alloc o) :=
  ⟨h.os, h.tape, h.output, by rw [size_alloc]; have := h.size; omega, fun k hk hs => (Below.heap_alloc y o k (Nat.lt_of_lt_of_le hk h.size)).trans (h.block k hk hs)⟩
theorem Chg.below {x y : World} (h : Below x.heap.size x y) : Chg [] x y := ⟨h.os, h.tape, h.output, h.size, fun k hk _ => h.block k hk⟩
theorem Chg.toBelow {S : List Nat} {B : Nat} {x y : World} (h : Chg S x y) (hB : B ≤ x.heap.size) (hs : ∀ k ∈ S, B ≤ k) : Below B x y := ⟨h.os, h.tape, h.output, h.size, fun k hk => h.block k (by omega) (fun g => by have := hs k g; omega)⟩
/-- A block that holds one value: a variable. -/
def Var (w : World) (v : Nat) (t : TypeId) (x : Value) : Prop := w.heap[v]? = some (.cells #[x] t (0, 0))
theorem Var.lt {w : World} {v : Nat} {t : TypeId} {x : Value} (h : Var w v t x) : v < w.heap.size := (Array.getElem?_eq_some_iff.1 h).1
theorem Var.cell {w : World} {v : Nat} {t : TypeId} {x : Value} (h : Var w v t x) : w.cell? ⟨v, 0, none⟩ = some x := by
  unfold Var at h; simp [World.cell?, h]
theorem Var.frozen {w : World} {v : Nat} {t : TypeId} {x : Value} (h : Var w v t x) (o : Nat) (s : Option Nat) : w.frozen? ⟨v, o, s⟩ = false := by
  unfold Var at h; simp [World.frozen?, h]
theorem heap_put (w : World) (a : Addr) (c : Array Value) (T : TypeId) (f : Nat × Nat) (x : Value) (h : w.heap[a.block]? = some (.cells c T f)) (hs : a.spot = none) : (w.setCell a x).heap[a.block]? = some (.cells (c.setIfInBounds a.off x) T f) := by
  have hlt := (Array.getElem?_eq_some_iff.1 h).1
  have h2 := (Array.getElem?_eq_some_iff.1 h).2
  show (w.heap.modify a.block _)[a.block]? = _
  rw [Array.getElem?_eq_getElem (by simpa using hlt), Array.getElem_modify_self, h2]
  simp [hs]
theorem Var.set {w : World} {v : Nat} {t : TypeId} {x : Value} (h : Var w v t x) (y : Value) : Var (w.setCell ⟨v, 0, none⟩ y) v t y := by
  have := heap_put w ⟨v, 0, none⟩ _ _ _ y h rfl
  unfold Var
  rw [this]
  rfl
theorem Var.setOther {w : World} {v : Nat} {t : TypeId} {x : Value} (h : Var w v t x) {a : Addr} (ha : v ≠ a.block) (y : Value) : Var (w.setCell a y) v t x := (Below.heap_setCell w a y v ha).trans h
theorem Var.alloc {w : World} {v : Nat} {t : TypeId} {x : Value} (h : Var w v t x) (o : Obj) : Var (w.alloc o) v t x := (Below.heap_alloc w o v h.lt).trans h
theorem Var.drewN {w : World} {v : Nat} {t : TypeId} {x : Value} (h : Var w v t x) (k : Nat) : Var (w.drewN k) v t x := h
theorem Var.drew {w : World} {v : Nat} {t : TypeId} {x : Value} (h : Var w v t x) : Var w.drew v t x := h
theorem Var.chg {S : List Nat} {w w' : World} {v : Nat} {t : TypeId} {x : Value} (h : Var w v t x) (hc : Chg S w w') (hs : v ∉ S) : Var w' v t x := (hc.block v h.lt hs).trans h
theorem size_setCell (w : World) (a : Addr) (x : Value) : (w.setCell a x).heap.size = w.heap.size := by simp [World.setCell]
/-- 'make([]T, n, m)'. -/
theorem wpList_make {P : Program} {w : World} {ops : Array Oper} {rest : List Oper} {o : Oper} {a : Act} {Q : Exit → Act → World → Prop} (hg : o.guard = none) (l c : Operand) (t : TypeId) (hop : o.op = Op.makeSlice t l c)
    (e : TypeId) (z : Value) (size bytes : Nat) (h1 : P.underlying t = some (.slice e)) (h2 : (P.info? e).map (fun i => (i.zero, i.size, i.bytes)) = some (some z, size, bytes))
    (kl kc : IntKind) (L C : Int) (hl : a.eval l = .int kl L) (hc : a.eval c = .int kc C) (h0 : 0 ≤ L) (hLC : L ≤ C) (hb : (bytes : Int) * C ≤ 281474976710656) (hC : C ≤ 9223372036854775807)
    (hK : ∀ w2, w2 = w.alloc (.cells (madeCells z.cells (C.toNat * size)) e) → wpList P ops Q rest (a.put o.dst (.slice (some ⟨w.heap.size, 0, none⟩) L.toNat C.toNat)) w2) :
    wpList P ops Q (o :: rest) a w := by
  refine wpList_plain hg fun K hK' => ?_
  obtain ⟨i, hi, hzz⟩ := Option.map_eq_some_iff.1 h2
  simp only [Prod.mk.injEq] at hzz
  obtain ⟨z1, z2, z3⟩ := hzz
  have hr := run_make (P := P) w t e i z h1 hi z1 kl kc L C h0 hLC (by rw [z3]; exact hb) hC
  rw [z2] at hr
  unfold Oper.wp
  simp [execOp, hop, hl, hc, hr, Result.andThen]
  exact hK' _ _ (hK _ rfl)
/-- 'copy' of elements of several cells over a whole row. -/
theorem run_copy_size {P : Program} (w : World) (dT sT ty elem : TypeId) (g dLen dCap : Nat) (a : Addr) (sLen sCap : Nat) (cur : Array Value) (t : TypeId) (cs : List Value) (s : Nat)
    (hu : P.underlying dT = some (.slice elem)) (hs : (P.info? elem).map (·.size) = some s)
    (hg : w.heap[g]? = some (.cells cur t (0, 0))) (hn : cs.length = Nat.min sLen dLen * s)
    (hsrc : ∀ j v, cs[j]? = some v → w.cell? (a.add j) = some v) (hfit : cs.length = cur.size) (h1 : ∀ v ∈ cs, v.oneCell' = true) :
    (Builtin.copy_ #[dT, sT] ty #[.slice (some ⟨g, 0, none⟩) dLen dCap, .slice (some a) sLen sCap]).run P w =
      .ok (goInt (Nat.min sLen dLen)) (w.setRow g cs.toArray) := by
  have hl := run_loadCells_list (P := P) w a cs hsrc
  have hst := run_storeCells_at P g 0 t cs 0 cur w hg (by simp; omega) h1
  rw [hfit] at hst
  simp only [Nat.zero_add, Nat.add_zero, List.take_zero, List.nil_append] at hst
  rw [List.drop_of_length_le (by simp), List.append_nil] at hst
  rw [hn] at hl
  cases hq : P.info? elem with
  | none => simp [hq] at hs
  | some i =>
    have hi : i.size = s := by simpa [hq] using hs
    simp [Builtin.copy_, run_underlying hu, Builtin.lenOf, Builtin.firstCells, sizeOf, typeInfo, hq, hi, hl, hst]
theorem wpList_copy_size {P : Program} {w : World} {ops : Array Oper} {rest : List Oper} {o : Oper} {a : Act} {Q : Exit → Act → World → Prop} (hgd : o.guard = none) (d s : Operand) (dT sT : TypeId)
    (ho : o.op = .call { callee := .builtin .copy, args := #[d, s], argTypes := #[dT, sT] }) (elem : TypeId) (z : Nat) (hu : P.underlying dT = some (.slice elem)) (hsz : (P.info? elem).map (·.size) = some z)
    (g dLen dCap : Nat) (ad : Addr) (sLen sCap : Nat) (hd : a.eval d = .slice (some ⟨g, 0, none⟩) dLen dCap) (hs : a.eval s = .slice (some ad) sLen sCap)
    (cur : Array Value) (t : TypeId) (hg : w.heap[g]? = some (.cells cur t (0, 0))) (cs : List Value) (hn : cs.length = Nat.min sLen dLen * z)
    (hsrc : ∀ j v, cs[j]? = some v → w.cell? (ad.add j) = some v) (hfit : cs.length = cur.size) (h1 : ∀ v ∈ cs, v.oneCell' = true)
    (h : ∀ w2, w2 = w.setRow g cs.toArray → wpList P ops Q rest (a.put o.dst (goInt (Nat.min sLen dLen))) w2) : wpList P ops Q (o :: rest) a w := by
  refine wpList_plain hgd fun K hK => ?_
  have hrun := run_copy_size (P := P) w dT sT o.type elem g dLen dCap ad sLen sCap cur t cs z hu hsz hg hn hsrc hfit h1
  unfold Oper.wp
  simp [execOp, ho, resolve, invoke, builtin, hd, hs, hrun, Result.andThen]
  exact hK _ _ (h _ rfl)
theorem Chg.setRow {S : List Nat} {x y : World} (h : Chg S x y) {g : Nat} (e : g ∈ S ∨ x.heap.size ≤ g) (cs : Array Value) : Chg S x (y.setRow g cs) :=
  ⟨h.os, h.tape, h.output, by have := h.size; simpa [World.setRow] using this, fun k hk hs => (setRow_other y g k cs (fun q => by subst q; rcases e with e | e; exact hs e; omega)).trans (h.block k hk hs)⟩
end Go.Proofs.YtpjnebmcbeblkaaDoor.Gn
namespace Go.Proofs.YtpjnebmcbeblkaaDoor.Gn
open Go.RowKit Go.Instr
/-- The slice v (nil, or at the head of a block of its own) holds xs. -/
def ORow (w : World) (e : Nat) (v : Value) (xs : List Value) : Prop := w.ownsRow 0 e 1 v xs.length xs
theorem ORow.nil (w : World) (e : Nat) : ORow w e (.slice none 0 0) [] := ⟨rfl, .inl ⟨rfl, rfl⟩⟩
theorem ORow.parts {w : World} {e : Nat} {v : Value} {xs : List Value} (h : ORow w e v xs) : (v = .slice none 0 0 ∧ xs = []) ∨
    ∃ g cap cur, v = .slice (some ⟨g, 0, none⟩) xs.length cap ∧ w.heap[g]? = some (.cells cur e (0, 0)) ∧ xs.length ≤ cap ∧ cap ≤ maxLen ∧ cur.size = cap ∧ cur.toList.take xs.length = xs := by
  obtain ⟨_, ⟨h1, h2⟩ | ⟨g, cap, cur, h1, _, h2, h3, h4, h5, h6⟩⟩ := h
  · exact .inl ⟨h1, List.eq_nil_of_length_eq_zero h2⟩
  · exact .inr ⟨g, cap, cur, h1, h2, h3, h4, by simpa using h5, by simpa using h6⟩
theorem ORow.of {w : World} {e g cap : Nat} {cur : Array Value} {xs : List Value} (h2 : w.heap[g]? = some (.cells cur e (0, 0))) (h3 : xs.length ≤ cap) (h4 : cap ≤ maxLen) (h5 : cur.size = cap) (h6 : cur.toList.take xs.length = xs) : ORow w e (.slice (some ⟨g, 0, none⟩) xs.length cap) xs :=
  ⟨by simp, .inr ⟨g, cap, cur, rfl, Nat.zero_le _, h2, h3, h4, by simpa using h5, by simpa using h6⟩⟩
theorem ORow.chg {S : List Nat} {w w' : World} {e : Nat} {v : Value} {xs : List Value} (h : ORow w e v xs) (hc : Chg S w w') (hs : ∀ g, v.ownBlock = some g → g ∉ S) : ORow w' e v xs := by
  rcases h.parts with ⟨rfl, rfl⟩ | ⟨g, cap, cur, rfl, h2, h3, h4, h5, h6⟩
  · exact ORow.nil _ _
  · exact ORow.of ((hc.block g (Array.getElem?_eq_some_iff.1 h2).1 (hs g rfl)).trans h2) h3 h4 h5 h6
theorem ORow.block {w : World} {e : Nat} {v : Value} {xs : List Value} (h : ORow w e v xs) {g : Nat} (hg : v.ownBlock = some g) : g < w.heap.size ∧ ∃ cur, w.heap[g]? = some (.cells cur e (0, 0)) := by
  rcases h.parts with ⟨rfl, rfl⟩ | ⟨g2, cap, cur, rfl, h2, h3, h4, h5, h6⟩
  · cases hg
  · injection hg with hg
    dsimp only at hg
    subst hg
    exact ⟨(Array.getElem?_eq_some_iff.1 h2).1, cur, h2⟩
theorem ORow.slice {w : World} {e : Nat} {v : Value} {xs : List Value} (h : ORow w e v xs) : ∃ A cap, v = .slice A xs.length cap ∧ xs.length ≤ cap ∧ (xs ≠ [] → ∃ g, A = some ⟨g, 0, none⟩) ∧ (A = none → xs = [] ∧ cap = 0) := by
  rcases h.parts with ⟨rfl, rfl⟩ | ⟨g2, cap, cur, rfl, h2, h3, h4, h5, h6⟩
  · exact ⟨none, 0, rfl, Nat.le_refl _, fun h => absurd rfl h, fun _ => ⟨rfl, rfl⟩⟩
  · exact ⟨_, cap, rfl, h3, fun _ => ⟨g2, rfl⟩, fun h => by cases h⟩
theorem ORow.cell {w : World} {e g n cap : Nat} {xs : List Value} (h : ORow w e (.slice (some ⟨g, 0, none⟩) n cap) xs) (i : Nat) (hi : i < xs.length) : w.cell? ⟨g, i, none⟩ = some xs[i] := by
  rcases h.parts with ⟨h1, rfl⟩ | ⟨g2, cap, cur, h1, h2, h3, h4, h5, h6⟩
  · cases h1
  · injection h1 with h1 _ _
    injection h1 with h1
    injection h1 with h1
    subst h1
    have h7 : cur[i]? = some xs[i] := by
      have : (cur.toList.take xs.length)[i]? = some xs[i] := by rw [h6]; exact List.getElem?_eq_getElem hi
      rw [List.getElem?_take, if_pos hi] at this
      simpa using this
    simp [World.cell?, h2, h7]
theorem grownBy_chg {w w' : World} {row : Option Nat} (h : w.grownBy w' row) : Chg row.toList w w' :=
  ⟨h.os, h.tape, h.output, h.size, fun k hk hs => h.block k hk (fun e => hs (by rw [← e]; simp))⟩
/-- 'append(s, y)' where s is a row of its own. -/
theorem wpList_append1 {P : Program} {w : World} {ops : Array Oper} {rest : List Oper} {o : Oper} {a : Act} {Q : Exit → Act → World → Prop} (hgd : o.guard = none) (s x : Operand) (t : TypeId)
    (ho : o.op = .call { callee := .builtin .append, args := #[s, x], argTypes := #[t, t] })
    (e : TypeId) (z : Value) (bytes : Nat) (ht : P.underlying t = some (.slice e)) (hi : (P.info? e).map (fun i => (i.zero, i.size, i.bytes)) = some (some z, 1, bytes)) (hzs : z.cells.size = 1)
    (v : Value) (xs : List Value) (hs : a.eval s = v) (hown : ORow w e v xs)
    (g : Nat) (y : Value) (hx : a.eval x = .slice (some ⟨g, 0, none⟩) 1 1) (hy : w.cell? ⟨g, 0, none⟩ = some y) (h1 : y.oneCell' = true)
    (hl : (xs.length + 1) * bytes ≤ 140737488355328) (hl2 : xs.length < maxLen)
    (h : ∀ v' w', ORow w' e v' (xs ++ [y]) → Chg v.ownBlock.toList w w' → (v'.ownBlock = v.ownBlock ∨ v'.ownBlock = some w.heap.size) → wpList P ops Q rest (a.put o.dst v') w') :
    wpList P ops Q (o :: rest) a w := by
  obtain ⟨i, hi1, hi2, hi3, hi4⟩ := info_parts hi
  refine wpList_append_own_at w hgd s x t ho 0 e i z 1 bytes ht hi1 hi2 hi3 hi4 hzs (by omega) v xs.length xs hs hown ⟨g, 0, none⟩ 1 1 [y] hx rfl (fun j u hj => ?_) (fun u hu => ?_) (by unfold maxLen at *; omega) hl (Nat.zero_le _) ?_
  · have : j = 0 := by
      rcases j with _ | j
      · rfl
      · simp at hj
    subst this
    have : u = y := by simpa using hj.symm
    rw [this]
    exact hy
  · rw [List.mem_singleton.1 hu]; exact h1
  · intro v' w' h2 h3 _ h5
    exact h v' w' (by unfold ORow; simpa using h2) (grownBy_chg h3) h5

/-- What is asked of a kind of keys. -/
structure KeyOk {α : Type} (P : Program) (kt : TypeId) (enc : α → Value) [DecidableEq α] : Prop where
  same : ∃ d, P.underlying kt = some d ∧ ∀ a b, sameNow d (enc a) (enc b) = some (decide (a = b))
  check : ∀ e a w, (checkKey e 10000 kt (enc a)).run P w = .ok () w
  bits : ∀ a, sameBits 10000 (enc a) (enc a) = true
section
variable {α : Type}
def kv (e : MapEntry) : Value × Value := (e.key, e.val)
/-- Block r is a map with these keys and values. -/
def MapAt (w : World) (r : Nat) (enc : α → Value) (S : List (α × Value)) : Prop :=
  ∃ es c, w.heap[r]? = some (.map es c) ∧ es.toList.map kv = S.map (fun p => (enc p.1, p.2))
theorem MapAt.lt {w : World} {r : Nat} {enc : α → Value} {S : List (α × Value)} (h : MapAt w r enc S) : r < w.heap.size := by
  obtain ⟨es, c, h, _⟩ := h
  exact (Array.getElem?_eq_some_iff.1 h).1
theorem MapAt.chg {T : List Nat} {w w' : World} {r : Nat} {enc : α → Value} {S : List (α × Value)} (h : MapAt w r enc S) (hc : Chg T w w') (hs : r ∉ T) : MapAt w' r enc S := by
  obtain ⟨es, c, h1, h2⟩ := h
  exact ⟨es, c, (hc.block r (Array.getElem?_eq_some_iff.1 h1).1 hs).trans h1, h2⟩
theorem MapAt.new (w : World) (enc : α → Value) : MapAt (w.alloc (.map #[] 0)) w.heap.size enc [] := ⟨#[], 0, heap_alloc_new _ _, rfl⟩
variable [DecidableEq α]
def getL (S : List (α × Value)) (k : α) : Option Value := (S.find? (fun p => p.1 = k)).map (·.2)
def putL : List (α × Value) → α → Value → List (α × Value)
  | [], k, v => [(k, v)]
  | p :: S, k, v => if p.1 = k then (k, v) :: S else p :: putL S k v
theorem getL_putL (S : List (α × Value)) (k k' : α) (v : Value) : getL (putL S k v) k' = if k' = k then some v else getL S k' := by
  induction S with
  | nil =>
    unfold putL getL
    by_cases e : k' = k
    · subst e; simp
    · rw [if_neg e]
      have : ¬ k = k' := fun g => e g.symm
      simp [this]
  | cons p S ih =>
    unfold putL
    by_cases e : p.1 = k
    · rw [if_pos e]
      by_cases e2 : k' = k
      · subst e2; simp [getL]
      · rw [if_neg e2]
        have h1 : ¬ k = k' := fun g => e2 g.symm
        have h2 : ¬ p.1 = k' := fun g => e2 (by rw [← g, e])
        simp [getL, h1, h2]
    · rw [if_neg e]
      by_cases e2 : p.1 = k'
      · have h1 : ¬ k' = k := fun g => e (by rw [e2, g])
        rw [if_neg h1]
        simp [getL, e2]
      · have h3 : getL (p :: putL S k v) k' = getL (putL S k v) k' := by simp [getL, e2]
        have h4 : getL (p :: S) k' = getL S k' := by simp [getL, e2]
        rw [h3, h4, ih]
theorem find_spec {P : Program} {kt : TypeId} {enc : α → Value} {d : TypeDesc} (hd : ∀ a b, sameNow d (enc a) (enc b) = some (decide (a = b))) (k : α) (v : Value) :
    ∀ (es : List MapEntry) (S : List (α × Value)) (i0 : Nat), es.map kv = S.map (fun p => (enc p.1, p.2)) →
      ∃ r, findNow d (enc k) es i0 = some r ∧
        (match r with
          | none => getL S k = none ∧ ∀ b, (es ++ [({ key := enc k, val := v, born := b } : MapEntry)]).map kv = (putL S k v).map (fun p => (enc p.1, p.2))
          | some (i, x) => i0 ≤ i ∧ getL S k = some x ∧ (∃ e, es[i - i0]? = some e ∧ e.key = enc k) ∧ (es.modify (i - i0) (fun e : MapEntry => { e with key := enc k, val := v })).map kv = (putL S k v).map (fun p => (enc p.1, p.2))) := by
  intro es
  induction es with
  | nil =>
    intro S i0 h
    have : S = [] := by simpa using h.symm
    subst this
    exact ⟨none, rfl, rfl, fun b => rfl⟩
  | cons e es ih =>
    intro S i0 h
    cases S with
    | nil => cases h
    | cons p S =>
      simp only [List.map_cons, List.cons.injEq, kv, Prod.mk.injEq] at h
      obtain ⟨⟨h1, h2⟩, h3⟩ := h
      unfold findNow
      rw [h1, hd]
      by_cases e1 : k = p.1
      · rw [decide_eq_true e1]
        refine ⟨some (i0, e.val), rfl, Nat.le_refl _, ?_, ⟨e, by simp, by rw [h1, e1]⟩, ?_⟩
        · simp [getL, e1, h2]
        · simp [putL, e1, List.modify, h3, kv]
      · rw [decide_eq_false e1]
        obtain ⟨r, r1, r2⟩ := ih S (i0 + 1) h3
        refine ⟨r, r1, ?_⟩
        have e2 : ¬ p.1 = k := fun g => e1 g.symm
        have hg : getL (p :: S) k = getL S k := by simp [getL, e2]
        have hp : putL (p :: S) k v = p :: putL S k v := by simp only [putL]; rw [if_neg e2]
        rw [hg, hp]
        cases r with
        | none => exact ⟨r2.1, fun b => by have := r2.2 b; rw [List.cons_append, List.map_cons, List.map_cons, this]; unfold kv; rw [h1, h2]⟩
        | some q =>
          obtain ⟨i, x⟩ := q
          obtain ⟨a1, a2, ⟨e3, a3, a4⟩, a5⟩ := r2
          have ei : i - i0 = (i - (i0 + 1)) + 1 := by omega
          refine ⟨by omega, a2, ⟨e3, by rw [ei]; simpa using a3, a4⟩, ?_⟩
          rw [ei]
          rw [List.modify_succ_cons, List.map_cons, List.map_cons, a5]
          unfold kv; rw [h1, h2]
theorem run_lookup {P : Program} {w : World} {r : Nat} {enc : α → Value} {S : List (α × Value)} (h : MapAt w r enc S) {t kt et : TypeId} (K : KeyOk P kt enc) (ht : P.underlying t = some (.map kt et)) (k : α) (ok : Bool) (z : Value) (hz : (zeroValue et).run P w = .ok z w) :
    (lookup t (.map (some r)) (enc k) ok).run P w = .ok (if ok then .tuple #[(getL S k).getD z, .bool (getL S k).isSome] else (getL S k).getD z) w := by
  obtain ⟨es, c, h1, h2⟩ := h
  obtain ⟨d, hd1, hd2⟩ := K.same
  obtain ⟨f, f1, f2⟩ := find_spec (P := P) (kt := kt) hd2 k z es.toList S 0 h2
  have hgo : (getObj r).run P w = .ok (.map es c) w := by simp [getObj, Sem.run, h1]
  cases f with
  | none =>
    have hn := f2.1
    simp [lookup, run_underlying ht, hgo, K.check, findKey, run_underlying hd1, f1, hz, hn]
  | some q =>
    obtain ⟨i, x⟩ := q
    have hn := f2.2.1
    simp [lookup, run_underlying ht, hgo, K.check, findKey, run_underlying hd1, f1, hn]
theorem run_mapUpdate {P : Program} {w : World} {r : Nat} {enc : α → Value} {S : List (α × Value)} (h : MapAt w r enc S) {t kt et : TypeId} (K : KeyOk P kt enc) (ht : P.underlying t = some (.map kt et)) (k : α) (v : Value) :
    ∃ w', (mapUpdate t (.map (some r)) (enc k) v).run P w = .ok () w' ∧ MapAt w' r enc (putL S k v) ∧ Chg [r] w w' ∧ w'.heap.size = w.heap.size := by
  obtain ⟨es, c, h1, h2⟩ := h
  obtain ⟨d, hd1, hd2⟩ := K.same
  obtain ⟨f, f1, f2⟩ := find_spec (P := P) (kt := kt) hd2 k v es.toList S 0 h2
  have hlt := (Array.getElem?_eq_some_iff.1 h1).1
  have hgo : (getObj r).run P w = .ok (.map es c) w := by simp [getObj, Sem.run, h1]
  have hset : ∀ o, (setObj r o).run P w = .ok () { w with heap := w.heap.setIfInBounds r o } := fun o => by simp [setObj, Sem.run, h1]
  have hchg : ∀ o, Chg [r] w { w with heap := w.heap.setIfInBounds r o } := fun o => ⟨rfl, rfl, rfl, by simp, fun j hj hs => by
    have : r ≠ j := fun g => hs (by simp [g])
    simp [this]⟩
  cases f with
  | none =>
    refine ⟨{ w with heap := w.heap.setIfInBounds r (.map (es.push { key := enc k, val := v, born := c }) (c + 1)) }, ?_, ⟨es.push { key := enc k, val := v, born := c }, c + 1, by simp [hlt], ?_⟩, hchg _, by simp⟩
    · simp [mapUpdate, run_underlying ht, hgo, K.check, findKey, run_underlying hd1, f1, hset]
    · rw [Array.toList_push]
      exact f2.2 c
  | some q =>
    obtain ⟨i, x⟩ := q
    obtain ⟨a1, a2, ⟨e3, a3, a4⟩, a5⟩ := f2
    simp only [Nat.sub_zero] at a3 a5
    have hk : (((es[i]?).map (·.key)).getD (enc k)) = enc k := by
      rw [← Array.getElem?_toList, a3]
      simpa using a4
    have hst : (keyThatStays (enc k) (enc k)).run P w = .ok (enc k) w := by
      unfold keyThatStays
      rw [if_pos (K.bits k)]
      rfl
    refine ⟨{ w with heap := w.heap.setIfInBounds r (.map (es.modify i (fun e : MapEntry => { e with key := enc k, val := v })) c) }, ?_, ⟨_, c, by simp [hlt]; rfl, ?_⟩, hchg _, by simp⟩
    · simp [mapUpdate, run_underlying ht, hgo, K.check, findKey, run_underlying hd1, f1, hk, hst, hset]
    · simpa using a5
theorem wpList_lookup {P : Program} {w : World} {ops : Array Oper} {rest : List Oper} {o : Oper} {a : Act} {Q : Exit → Act → World → Prop} (hgd : o.guard = none) (m x : Operand) (t : TypeId) (ok : Bool) (ho : o.op = .lookup t m x ok)
    {r : Nat} {enc : α → Value} {S : List (α × Value)} (hm : a.eval m = .map (some r)) (k : α) (hx : a.eval x = enc k) (h : MapAt w r enc S) {kt et : TypeId} (K : KeyOk P kt enc) (ht : P.underlying t = some (.map kt et)) (z : Value) (hz : ∀ w, (zeroValue et).run P w = .ok z w)
    (hK : wpList P ops Q rest (a.put o.dst (if ok then .tuple #[(getL S k).getD z, .bool (getL S k).isSome] else (getL S k).getD z)) w) :
    wpList P ops Q (o :: rest) a w := by
  refine wpList_plain hgd fun K' hK' => ?_
  have hr := run_lookup h K ht k ok z (hz w)
  unfold Oper.wp
  simp [execOp, ho, hm, hx, hr, Result.andThen]
  exact hK' _ _ hK
theorem wpList_mapUpdate {P : Program} {w : World} {ops : Array Oper} {rest : List Oper} {o : Oper} {a : Act} {Q : Exit → Act → World → Prop} (hgd : o.guard = none) (m x y : Operand) (t : TypeId) (ho : o.op = .mapUpdate t m x y)
    {r : Nat} {enc : α → Value} {S : List (α × Value)} (hm : a.eval m = .map (some r)) (k : α) (hx : a.eval x = enc k) (v : Value) (hy : a.eval y = v) (h : MapAt w r enc S) {kt et : TypeId} (K : KeyOk P kt enc) (ht : P.underlying t = some (.map kt et))
    (hK : ∀ w', MapAt w' r enc (putL S k v) → Chg [r] w w' → w'.heap.size = w.heap.size → wpList P ops Q rest (a.put o.dst undef) w') :
    wpList P ops Q (o :: rest) a w := by
  refine wpList_plain hgd fun K' hK' => ?_
  obtain ⟨w', hr, h1, h2, h3⟩ := run_mapUpdate h K ht k v
  unfold Oper.wp
  simp [execOp, ho, hm, hx, hy, hr, Result.andThen]
  exact hK' _ _ (hK w' h1 h2 h3)
end
theorem check_int {P : Program} {kt : TypeId} {kk : IntKind} (h : P.underlying kt = some (.int kk)) (e : Bool) (n : Nat) (a : Value) (w : World) : (checkKey e (n + 1) kt a).run P w = .ok () w := by
  simp [checkKey, run_underlying h]
theorem check_str {P : Program} {kt : TypeId} (h : P.underlying kt = some .string) (e : Bool) (n : Nat) (a : Value) (w : World) : (checkKey e (n + 1) kt a).run P w = .ok () w := by
  simp [checkKey, run_underlying h]
theorem bits_int (n : Nat) (kk : IntKind) (a : Int) : sameBits n (.int kk a) (.int kk a) = true := by cases n <;> simp [sameBits]
theorem beq_bytes (a b : ByteArray) : (a == b) = decide (a = b) := by
  rw [Bool.eq_iff_iff, Go.MapKept.bytes_beq, decide_eq_true_iff]
theorem bits_str (n : Nat) (a : ByteArray) : sameBits n (.string a) (.string a) = true := by cases n <;> simp [sameBits, beq_bytes]
theorem keyInt {P : Program} {kt : TypeId} {kk : IntKind} (h : P.underlying kt = some (.int kk)) : KeyOk P kt (fun n : Int => Value.int kk n) := by
  refine ⟨⟨_, h, fun a b => ?_⟩, fun e a w => check_int h e 9999 _ w, fun a => bits_int _ _ _⟩
  simp only [sameNow, if_true]
  by_cases e : a = b
  · subst e; simp
  · simp [e]
theorem keyStr {P : Program} {kt : TypeId} (h : P.underlying kt = some .string) : KeyOk P kt (fun s : ByteArray => Value.string s) := by
  refine ⟨⟨_, h, fun a b => ?_⟩, fun e a w => check_str h e 9999 _ w, fun a => bits_str _ _⟩
  simp only [sameNow, beq_bytes]
end Go.Proofs.YtpjnebmcbeblkaaDoor.Gn
namespace Go.Proofs
open Go.Shelf
def Tryd.lays732_ren : Go.Shelf.Ren := ⟨fun | 32 => 33 | 49 => 44 | n => n, fun | 30 => 46 | 21 => 21 | 3 => 3 | 0 => 0 | 5 => 5 | 4 => 4 | 33 => 60 | 66 => 72 | 25 => 76 | 69 => 75 | 68 => 74 | n => n, fun | 2 => 0 | 3 => 1 | n => n⟩
theorem Tryd.lays732 : Go.Proofs.Lays7.n32 Tryd.prog Tryd.lays732_ren := {
  mixed := by kernel_rfl
  f32 := Tryd.func33.trans (congrArg some (by kernel_rfl))
  f49 := Tryd.func44.trans (congrArg some (by kernel_rfl))
  t0 := Tryd.underlying0
  a0 := Tryd.isAgg0
  z0 := Tryd.sizeOf0
  v0 := Tryd.zeroValue0
  i0 := by kernel_rfl
  t3 := Tryd.underlying3
  a3 := Tryd.isAgg3
  z3 := Tryd.sizeOf3
  v3 := Tryd.zeroValue3
  i3 := by kernel_rfl
  t4 := Tryd.underlying4
  a4 := Tryd.isAgg4
  z4 := Tryd.sizeOf4
  v4 := Tryd.zeroValue4
  i4 := by kernel_rfl
  t5 := Tryd.underlying5
  a5 := Tryd.isAgg5
  z5 := Tryd.sizeOf5
  v5 := Tryd.zeroValue5
  i5 := by kernel_rfl
  t21 := Tryd.underlying21
  a21 := Tryd.isAgg21
  z21 := Tryd.sizeOf21
  v21 := Tryd.zeroValue21
  i21 := by kernel_rfl
  t25 := Tryd.underlying76
  a25 := Tryd.isAgg76
  z25 := Tryd.sizeOf76
  v25 := Tryd.zeroValue76
  i25 := by kernel_rfl
  t30 := Tryd.underlying46
  a30 := Tryd.isAgg46
  z30 := Tryd.sizeOf46
  v30 := Tryd.zeroValue46
  i30 := by kernel_rfl
  t33 := Tryd.underlying60
  a33 := Tryd.isAgg60
  z33 := Tryd.sizeOf60
  v33 := Tryd.zeroValue60
  i33 := by kernel_rfl
  t66 := Tryd.underlying72
  a66 := Tryd.isAgg72
  z66 := Tryd.sizeOf72
  t68 := Tryd.underlying74
  a68 := Tryd.isAgg74
  z68 := Tryd.sizeOf74
  v68 := Tryd.zeroValue74
  i68 := by kernel_rfl
  t69 := Tryd.underlying75
  a69 := Tryd.isAgg75
  z69 := Tryd.sizeOf75
  v69 := Tryd.zeroValue75
  i69 := by kernel_rfl
  g2 := by kernel_rfl
  g3 := by kernel_rfl }
end Go.Proofs
namespace Go.Proofs.YtpjnebmcbeblkaaDoor.X
open Go.RowKit Go.Lib Go.Shelf
theorem accept_eq : Rows.laid_unicode_utf8_acceptRanges = (acceptData : DataW Unit) := by kernel_rfl
theorem white_eq : Rows.laid_unicode_White_Space = (whiteData : DataW Unit) := by kernel_rfl
def ren8 : Go.Shelf.Ren := ⟨fun n => n, fun | 119 => Tryd.lays732_ren.t 66 | 138 => Tryd.lays732_ren.t 68 | 139 => Tryd.lays732_ren.t 69 | n => n, fun | 3 => Tryd.lays732_ren.g 2 | 4 => Tryd.lays732_ren.g 3 | n => n⟩
theorem u8types : U8Types Tryd.prog ren8 := ⟨Tryd.lays732.t5, Tryd.lays732.t66, Tryd.lays732.t68, Tryd.lays732.t69⟩
theorem u8extra : U8Extra Tryd.prog ren8 := ⟨by kernel_rfl, by kernel_rfl, by kernel_rfl, by kernel_rfl, by kernel_rfl, by kernel_rfl, by kernel_rfl⟩
theorem whiteExtra : WhiteExtra Tryd.prog Tryd.lays199_ren := ⟨by kernel_rfl, by kernel_rfl, by kernel_rfl, by kernel_rfl, by kernel_rfl, by kernel_rfl, by kernel_rfl, by kernel_rfl⟩
/-- What the walks ask of the world. -/
structure Tabs (W : World) : Prop where
  u8 : Utf8Tabs 0 1 W
  white : WhiteTab 2 W
theorem Tabs.below {w W : World} (h : Tabs w) (hb : Below w.heap.size w W) : Tabs W := ⟨Utf8Tabs_below h.u8 hb, WhiteTab_below h.white hb⟩
theorem tabs_in {laid : List (String × DataW Unit)} (h1 : ("unicode/utf8.first", Rows.laid_unicode_utf8_first) ∈ laid) (h2 : ("unicode/utf8.acceptRanges", Rows.laid_unicode_utf8_acceptRanges) ∈ laid) (h3 : ("unicode.White_Space", Rows.laid_unicode_White_Space) ∈ laid) {W : World} (h : laidMet Tryd.prog laid W) : Tabs W := by
  rw [show Rows.laid_unicode_utf8_first = firstData from Pinned.utf8First_eq] at h1
  rw [accept_eq] at h2
  rw [white_eq] at h3
  exact ⟨utf8Tabs_of_readsT u8types u8extra (Lib.laidMet.reads h h1) (Lib.laidMet.reads h h2), whiteTab_of_reads Tryd.lays199 whiteExtra (Lib.laidMet.reads h h3)⟩
def laidAll : List (String × DataW Unit) := [("unicode/utf8.acceptRanges", Rows.laid_unicode_utf8_acceptRanges), ("unicode.White_Space", Rows.laid_unicode_White_Space), ("unicode/utf8.first", Rows.laid_unicode_utf8_first)]
theorem tabs_of {W : World} (h : laidMet Tryd.prog laidAll W) : Tabs W := tabs_in (by unfold laidAll; simp) (by unfold laidAll; simp) (by unfold laidAll; simp) h
set_option maxRecDepth 100000 in
theorem laid_world (os : Os) (args : Array Value) : laidMet Tryd.prog laidAll ((World.laidAll Tryd.prog os laidAll).forCall (fun _ _ => 0) ⟨#[], args, []⟩).memory := laidMet_laidAll _ (by kernel_rfl) (by kernel_rfl)
end Go.Proofs.YtpjnebmcbeblkaaDoor.X
namespace Go.Proofs.YtpjnebmcbeblkaaDoor.Sn
open Go.RowKit Go.Lib
/-- The byte at j. -/
def byt (s : ByteArray) (j : Nat) : Int := ((s.get! j).toNat : Int)
theorem byt_range (s : ByteArray) (j : Nat) : 0 ≤ byt s j ∧ byt s j ≤ 255 := by
  unfold byt
  have := UInt8.toNat_lt (s.get! j)
  omega
theorem byt_eq (s : ByteArray) (j : Nat) (h : j < s.size) : byt s j = ((s.data[j]'h).toNat : Int) := by
  unfold byt
  show ((s.data[j]!).toNat : Int) = _
  rw [getElem!_pos s.data j h]
structure Sp where
  ends : List Int
  fol : List Int
  skip : Bool
  lines : Bool
  max : Int
def isD (o : Sp) (r : Int) : Bool := o.ends.any (· == r)
def isF (o : Sp) (r : Int) : Bool := o.fol.any (· == r)
/-- The sign at a place, and its size. -/
def sg (s : ByteArray) (p : Nat) : Nat × Nat := Lib.decodeGo (s.extract p s.size)
theorem get_ext (s : ByteArray) (p j : Nat) : (s.extract p s.size).get! j = s.get! (p + j) := by
  show (s.extract p s.size).data[j]! = s.data[p + j]!
  rw [ByteArray.data_extract]
  have hs : s.size = s.data.size := rfl
  by_cases h : p + j < s.data.size
  · have h3 : j < (s.data.extract p s.size).size := by rw [Array.size_extract]; omega
    rw [getElem!_pos _ j h3, getElem!_pos _ (p + j) h, Array.getElem_extract]
  · have h3 : ¬ j < (s.data.extract p s.size).size := by rw [Array.size_extract]; omega
    rw [getElem!_neg _ j h3, getElem!_neg _ (p + j) h]
theorem sg_dec (s : ByteArray) (p : Nat) (h : p < s.size) : sg s p = Utf8.decode s p := by
  have hz : (s.extract p s.size).size = s.size - p := by rw [ByteArray.size_extract]; omega
  unfold sg decodeGo
  rw [if_neg (by omega), decode_at, decode_at, hz, get_ext, get_ext, get_ext, get_ext]
  simp
theorem sg_pos (s : ByteArray) (p : Nat) (h : p < s.size) : 1 ≤ (sg s p).2 := by
  rw [sg_dec s p h, decode_at]
  unfold decodeN
  repeat' split
  all_goals simp
theorem sg_le (s : ByteArray) (p : Nat) (h : p < s.size) : p + (sg s p).2 ≤ s.size := by
  rw [sg_dec s p h, decode_at]
  unfold decodeN
  repeat' split
  all_goals (simp only; omega)
theorem sg_rune (s : ByteArray) (p : Nat) (h : p < s.size) : (sg s p).1 ≤ 1114111 := by
  rw [sg_dec s p h, decode_at]
  have := UInt8.toNat_lt (s.get! p)
  unfold decodeN
  repeat' split
  all_goals (simp only; omega)
/-- Byte v is written at j. -/
def setB (s : ByteArray) (j : Nat) (v : UInt8) : ByteArray := ⟨s.data.setIfInBounds j v⟩
theorem setB_size (s : ByteArray) (j : Nat) (v : UInt8) : (setB s j v).size = s.size := by
  unfold setB ByteArray.size
  simp
theorem byt_setB (s : ByteArray) (i j : Nat) (v : UInt8) (hj : j < s.size) : byt (setB s i v) j = if i = j then (v.toNat : Int) else byt s j := by
  have h2 : j < (setB s i v).size := by rw [setB_size]; exact hj
  rw [byt_eq _ _ h2, byt_eq _ _ hj]
  have h3 : j < (s.data.setIfInBounds i v).size := by simpa using hj
  show (((s.data.setIfInBounds i v)[j]'h3).toNat : Int) = _
  rw [Array.getElem_setIfInBounds]
  split <;> rfl
def space (o : Sp) (r : Int) : Bool := o.skip && Lib.isSpaceZ r
/-- n bytes from p on are laid at e (e is not behind p). -/
def move (s : ByteArray) (e p : Nat) : Nat → ByteArray
  | 0 => s
  | n + 1 => setB (move s e p n) (e + n) ((move s e p n).get! (p + n))
theorem move_size (s : ByteArray) (e p : Nat) : ∀ n, (move s e p n).size = s.size
  | 0 => rfl
  | n + 1 => by rw [move, setB_size, move_size s e p n]
def blank (s : ByteArray) (e : Nat) : Nat → ByteArray
  | 0 => s
  | n + 1 => setB (blank s e n) (e + n) 32
theorem blank_size (s : ByteArray) (e : Nat) : ∀ n, (blank s e n).size = s.size
  | 0 => rfl
  | n + 1 => by rw [blank, setB_size, blank_size s e n]
/-- The bytes behind a sign that was kept: it is laid at e. -/
def put (s : ByteArray) (e p n : Nat) : ByteArray := if e = p then s else move s e p n
theorem put_size (s : ByteArray) (e p n : Nat) : (put s e p n).size = s.size := by
  unfold put
  split
  · rfl
  · exact move_size s e p n
/-- What a call tells: how far it went, the token's ends if there is one, the bytes as they are then. -/
structure Out where
  adv : Nat
  tok : Option (Nat × Nat)
  data : ByteArray
/-- Behind a sign that ends a sentence: signs that may follow, white space. -/
def tail (o : Sp) (start : Nat) : Nat → ByteArray → Nat → Nat → Bool → Out
  | 0, s, p, e, _ => ⟨p, some (start, e), s⟩
  | k + 1, s, p, e, nn =>
    if p < s.size then
      if space o (sg s p).1 then
        if o.lines && ((sg s p).1 : Int) == 10 then (if nn then ⟨p + (sg s p).2, some (start, e), s⟩ else tail o start k s (p + (sg s p).2) e true)
        else tail o start k s (p + (sg s p).2) e nn
      else if isD o (sg s p).1 || isF o (sg s p).1 then tail o start k (put s e p (sg s p).2) (p + (sg s p).2) (e + (sg s p).2) nn
      else ⟨p, some (start, e), s⟩
    else ⟨p, some (start, e), s⟩
def scan (o : Sp) (eof : Bool) : Nat → ByteArray → Nat → Nat → Nat → Int → Bool → Bool → Out
  | 0, s, p, start, e, rc, head, nn => ⟨0, none, s⟩
  | k + 1, s, p, start, e, rc, head, nn =>
    if p < s.size then
      if space o (sg s p).1 then
        if head then scan o eof k s (p + (sg s p).2) (p + (sg s p).2) (p + (sg s p).2) rc head nn
        else if isD o (sg s p).1 then ⟨p + (sg s p).2, some (start, e), s⟩
        else if o.lines && ((sg s p).1 : Int) == 10 then (if nn then ⟨p + (sg s p).2, some (start, e), s⟩ else scan o eof k s (p + (sg s p).2) start e rc head true)
        else scan o eof k s (p + (sg s p).2) start e rc head false
      else if (o.lines && ((sg s p).1 : Int) == 10) && nn then ⟨p + (sg s p).2, some (start, e + (sg s p).2), put s e p (sg s p).2⟩
      else if !(isD o (sg s p).1) && decide (rc + 1 < o.max) then scan o eof k (put s e p (sg s p).2) (p + (sg s p).2) start (e + (sg s p).2) (rc + 1) false ((o.lines && ((sg s p).1 : Int) == 10) || nn)
      else tail o start (s.size + 1) (put s e p (sg s p).2) (p + (sg s p).2) (e + (sg s p).2) false
    else if eof then ⟨s.size, some (start, e), s⟩ else ⟨start, none, blank s e (s.size - e)⟩
/-- The whole call. -/
def call (o : Sp) (s : ByteArray) (eof : Bool) : Out := if eof && s.size == 0 then ⟨0, none, s⟩ else scan o eof (s.size + 1) s 0 0 0 0 true false
end Go.Proofs.YtpjnebmcbeblkaaDoor.Sn
namespace Go.Proofs.YtpjnebmcbeblkaaDoor.Sn
open Go.RowKit Go.Lib Go.Proofs.YtpjnebmcbeblkaaDoorW.PrintWords Go.Proofs.YtpjnebmcbeblkaaDoor.Gn Go.Proofs.YtpjnebmcbeblkaaDoor.X
/-- The bytes d lie in block b (M bytes, none frozen), from off on. -/
def Win (w : World) (b M off : Nat) (d : ByteArray) : Prop := ∃ cs fz, w.heap[b]? = some (.cells cs 5 fz) ∧ cs.size = M ∧ off + d.size ≤ M ∧ (fz.2 ≤ fz.1 ∨ M ≤ fz.1) ∧ ∀ j, j < d.size → cs[off + j]? = some (.int .u8 (byt d j))
theorem Win.lt {w : World} {b M off : Nat} {d : ByteArray} (h : Win w b M off d) : b < w.heap.size := by
  obtain ⟨cs, fz, h, _⟩ := h
  exact (Array.getElem?_eq_some_iff.1 h).1
theorem Win.fits {w : World} {b M off : Nat} {d : ByteArray} (h : Win w b M off d) : off + d.size ≤ M := by
  obtain ⟨cs, fz, _, _, h, _⟩ := h
  exact h
theorem Win.block {w w1 : World} {b M off : Nat} {d : ByteArray} (h : Win w b M off d) (e : w1.heap[b]? = w.heap[b]?) : Win w1 b M off d := by
  obtain ⟨cs, fz, h1, h2⟩ := h
  exact ⟨cs, fz, e.trans h1, h2⟩
theorem Win.alloc {w : World} {b M off : Nat} {d : ByteArray} (h : Win w b M off d) (o : Obj) : Win (w.alloc o) b M off d := h.block (Below.heap_alloc w o b h.lt)
theorem Win.chg {S : List Nat} {w w1 : World} {b M off : Nat} {d : ByteArray} (h : Win w b M off d) (hc : Chg S w w1) (hb : b ∉ S) : Win w1 b M off d := h.block (hc.block b h.lt hb)
theorem Win.cell {w : World} {b M off : Nat} {d : ByteArray} (h : Win w b M off d) (j : Nat) (hj : j < d.size) : w.cell? ⟨b, off + j, none⟩ = some (.int .u8 (byt d j)) := by
  obtain ⟨cs, fz, h1, _, _, _, h2⟩ := h
  simp [World.cell?, h1, h2 j hj]
theorem Win.frozen {w : World} {b M off : Nat} {d : ByteArray} (h : Win w b M off d) (j : Nat) (hj : j < d.size) : w.frozen? ⟨b, off + j, none⟩ = false := by
  obtain ⟨cs, fz, h1, h2, h3, h4, _⟩ := h
  simp [World.frozen?, h1]
  omega
theorem Win.set {w : World} {b M off : Nat} {d : ByteArray} (h : Win w b M off d) (i : Nat) (hi : i < d.size) (v : UInt8) : Win (w.setCell ⟨b, off + i, none⟩ (.int .u8 (v.toNat : Int))) b M off (setB d i v) := by
  obtain ⟨cs, fz, h1, h2, h3, h4, h5⟩ := h
  refine ⟨cs.setIfInBounds (off + i) (.int .u8 (v.toNat : Int)), fz, ?_, by simpa using h2, by rw [setB_size]; exact h3, h4, fun j hj => ?_⟩
  · have := heap_put w ⟨b, off + i, none⟩ _ _ _ (.int .u8 (v.toNat : Int)) h1 rfl
    rw [this]
  · rw [setB_size] at hj
    rw [Array.getElem?_setIfInBounds, byt_setB d i j v hj]
    by_cases e : i = j
    · subst e; rw [if_pos rfl, if_pos (by omega), if_pos rfl]
    · rw [if_neg (by omega), if_neg e, h5 j hj]
/-- The sign at place p is read. -/
theorem dec_calls (w : World) (b M off c : Nat) (s : ByteArray) (p : Nat) (hp : p < s.size) (h : Win w b M off s) (hT : Tabs w) :
    Calls Tryd.prog 33 #[.slice (some ⟨b, off + p, none⟩) (s.size - p) c] w fun e w' => e = .returned (.tuple #[.int .i32 ((sg s p).1 : Int), .int .i64 ((sg s p).2 : Int)]) ∧ Chg [] w w' := by
  have hsz : (s.extract p s.size).size = s.size - p := by rw [ByteArray.size_extract]; omega
  have h1 := Any7.utf8_DecodeRune Tryd.lays732 (s.extract p s.size) b (off + p) c w hT.u8 (fun j hj => by
    rw [hsz] at hj
    have := h.cell (p + j) (by omega)
    rw [← Nat.add_assoc] at this
    rw [this, get_ext]
    rfl)
  rw [hsz] at h1
  exact h1.mono fun e w' ⟨h1, h2⟩ => ⟨h1, Chg.below h2⟩
theorem space_calls (r : Int) (w : World) (hlo : -2147483648 ≤ r) (hhi : r ≤ 2147483647) (hT : Tabs w) : Calls Tryd.prog 34 #[.int .i32 r] w fun e w' => e = .returned (.bool (Lib.isSpaceZ r)) ∧ Chg [] w w' :=
  (Tryd.unicode_IsSpace_any r w hlo hhi hT.white).mono fun e w' ⟨h1, h2⟩ => ⟨h1, Chg.below h2⟩
end Go.Proofs.YtpjnebmcbeblkaaDoor.Sn
