/- The double array, plain: the list of free cells, what marking a cell does to it, and that a place for some signs is found. The double array, plain: some cells are marked, one behind the other. The double array, plain: words as a tree of signs; that cells hold it; that it stays while others are added. The double array, plain: what add does, sign by sign. The double array, plain: sorted words make a fit tree; what is found along a text. The double array, plain: what is found along a text. -/
import Derived.MapKept
set_option linter.unusedVariables false
namespace Go.Proofs.Ytddcjmdcpkmnjaa.Da
/-- A function with another value at one place. -/
def upd (f : Nat → Int) (i : Nat) (v : Int) : Nat → Int := fun j => if j = i then v else f j
theorem upd_same (f : Nat → Int) (i : Nat) (v : Int) : upd f i v i = v := if_pos rfl
theorem upd_other (f : Nat → Int) {i j : Nat} (v : Int) (h : j ≠ i) : upd f i v j = f j := if_neg h
def head (C : Nat → Int) (p : Nat) (nx : Int) : Nat → Int := if C 0 = -(p : Int) then upd C 0 nx else C
theorem head_pos (C : Nat → Int) (p : Nat) (nx : Int) {r : Nat} (h : 1 ≤ r) : head C p nx r = C r := by
  unfold head; split
  · exact upd_other _ _ (by omega)
  · rfl
/-- The free cells (those below nought at 'check') form a ring, rising but for its end; cell 0 tells the first one; each used cell's parent is used. -/
structure Inv (n : Nat) (B C : Nat → Int) : Prop where
  root : ∃ h : Nat, C 0 = -(h : Int) ∧ 1 ≤ h ∧ h < n ∧ C h < 0 ∧ ∀ r, 1 ≤ r → r < h → 0 ≤ C r
  next : ∀ p, 1 ≤ p → p < n → C p < 0 → ∃ q : Nat, C p = -(q : Int) ∧ 1 ≤ q ∧ q < n ∧ C q < 0 ∧ B q = -(p : Int) ∧ ((p < q ∧ ∀ r, p < r → r < q → 0 ≤ C r) ∨ (q ≤ p ∧ (∀ r, p < r → r < n → 0 ≤ C r) ∧ ∀ r, 1 ≤ r → r < q → 0 ≤ C r))
  prev : ∀ q, 1 ≤ q → q < n → C q < 0 → ∃ p : Nat, B q = -(p : Int) ∧ 1 ≤ p ∧ p < n ∧ C p < 0 ∧ C p = -(q : Int)
  par : ∀ r, 1 ≤ r → r < n → 0 ≤ C r → ∃ p : Nat, C r = (p : Int) ∧ p < n ∧ (p = 0 ∨ 0 ≤ C p)
/-- The free cell p is marked as a child of q. -/
theorem Inv.mark {n : Nat} {B C : Nat → Int} (h : Inv n B C) {p pr nx q : Nat} (hp1 : 1 ≤ p) (hp : p < n) (hf : C p < 0) (hnx : C p = -(nx : Int)) (hpr : B p = -(pr : Int)) (hne : nx ≠ pr) (hpp : pr ≠ p) (hpn : nx ≠ p) (hq : q < n) (hqu : q = 0 ∨ 0 ≤ C q) :
    Inv n (upd B nx (B p)) (upd (upd (head C p (C p)) pr (C p)) p q) := by
  obtain ⟨nx', e1, n1, n2, n3, n4, n5⟩ := h.next p hp1 hp hf
  obtain rfl : nx' = nx := by omega
  obtain ⟨pr', e2, m1, m2, m3, m4⟩ := h.prev p hp1 hp hf
  obtain rfl : pr' = pr := by omega
  have hC : ∀ r, 1 ≤ r → r ≠ p → r ≠ pr' → upd (upd (head C p (C p)) pr' (C p)) p q r = C r := fun r h1 h2 h3 => by
    rw [upd_other _ _ h2, upd_other _ _ h3, head_pos _ _ _ h1]
  have hCp : upd (upd (head C p (C p)) pr' (C p)) p q p = q := upd_same _ _ _
  have hCpr : upd (upd (head C p (C p)) pr' (C p)) p q pr' = C p := by rw [upd_other _ _ hpp, upd_same]
  have hpos : ∀ r, 1 ≤ r → 0 ≤ C r → 0 ≤ upd (upd (head C p (C p)) pr' (C p)) p q r := fun r h1 h2 => by
    by_cases e : r = p
    · subst e; omega
    · by_cases e3 : r = pr'
      · subst e3; omega
      · rw [hC r h1 e e3]; exact h2
  have hfree : ∀ r, 1 ≤ r → upd (upd (head C p (C p)) pr' (C p)) p q r < 0 → r ≠ p ∧ C r < 0 := fun r h1 h2 => by
    by_cases e : r = p
    · subst e; rw [hCp] at h2; omega
    · refine ⟨e, ?_⟩
      by_cases e3 : r = pr'
      · subst e3; exact m3
      · rw [hC r h1 e e3] at h2; exact h2
  have hfree2 : ∀ r, 1 ≤ r → r ≠ p → C r < 0 → upd (upd (head C p (C p)) pr' (C p)) p q r < 0 := fun r h1 h2 h3 => by
    by_cases e3 : r = pr'
    · subst e3; rw [hCpr]; exact hf
    · rw [hC r h1 h2 e3]; exact h3
  have hpq : 0 ≤ upd (upd (head C p (C p)) pr' (C p)) p q p := by rw [hCp]; omega
  refine ⟨?_, ?_, ?_, ?_⟩
  · obtain ⟨hd, r1, r2, r3, r4, r5⟩ := h.root
    have h0 : upd (upd (head C p (C p)) pr' (C p)) p q 0 = head C p (C p) 0 := by rw [upd_other _ _ (by omega), upd_other _ _ (by omega)]
    rw [h0]
    by_cases e : hd = p
    · subst e
      have hh : head C hd (C hd) 0 = C hd := by unfold head; rw [if_pos r1]; exact upd_same _ _ _
      rw [hh]
      refine ⟨nx', e1, n1, n2, hfree2 _ n1 hpn n3, fun r a b => ?_⟩
      rcases n5 with ⟨g1, g2⟩ | ⟨g1, g2, g3⟩
      · by_cases e4 : r = hd
        · subst e4; exact hpq
        · rcases Nat.lt_or_ge r hd with g | g
          · exact hpos r a (r5 r a g)
          · exact hpos r a (g2 r (by omega) b)
      · have := r5 nx' n1 (by omega); omega
    · have hh : head C p (C p) 0 = C 0 := by unfold head; rw [if_neg (by omega)]
      rw [hh]
      refine ⟨hd, r1, r2, r3, hfree2 _ r2 e r4, fun r a b => hpos r a (r5 r a b)⟩
  · intro r a b c
    obtain ⟨c1, c2⟩ := hfree r a c
    by_cases e : r = pr'
    · subst e
      rw [hCpr]
      refine ⟨nx', e1, n1, n2, hfree2 _ n1 hpn n3, by rw [upd_same]; exact e2, ?_⟩
      obtain ⟨p2, f1, f2, f3, f4, f5, f6⟩ := h.next r a b c2
      obtain rfl : p2 = p := by omega
      rcases f6 with ⟨g1, g2⟩ | ⟨g1, g2, g3⟩ <;> rcases n5 with ⟨k1, k2⟩ | ⟨k1, k2, k3⟩
      · refine .inl ⟨by omega, fun t t1 t2 => ?_⟩
        by_cases e5 : t = p2
        · subst e5; exact hpq
        · rcases Nat.lt_or_ge t p2 with g | g
          · exact hpos t (by omega) (g2 t t1 g)
          · exact hpos t (by omega) (k2 t (by omega) t2)
      · refine .inr ⟨?_, fun t t1 t2 => ?_, fun t t1 t2 => hpos t t1 (k3 t t1 t2)⟩
        · rcases Nat.lt_or_ge r nx' with g | g
          · have := g2 nx' g (by omega); omega
          · omega
        · by_cases e5 : t = p2
          · subst e5; exact hpq
          · rcases Nat.lt_or_ge t p2 with g | g
            · exact hpos t (by omega) (g2 t t1 g)
            · exact hpos t (by omega) (k2 t (by omega) t2)
      · refine .inr ⟨?_, fun t t1 t2 => hpos t (by omega) (g2 t t1 t2), fun t t1 t2 => ?_⟩
        · rcases Nat.lt_or_ge r nx' with g | g
          · have := g2 nx' g n2; omega
          · omega
        · by_cases e5 : t = p2
          · subst e5; exact hpq
          · rcases Nat.lt_or_ge t p2 with g | g
            · exact hpos t (by omega) (g3 t t1 g)
            · exact hpos t (by omega) (k2 t (by omega) t2)
      · have h1 := k2 r (by omega) b; omega
    · rw [hC r a c1 e]
      obtain ⟨t, f1, f2, f3, f4, f5, f6⟩ := h.next r a b c2
      have tp : t ≠ p := fun g => by subst g; omega
      have tn : t ≠ nx' := fun g => by subst g; omega
      refine ⟨t, f1, f2, f3, hfree2 t f2 tp f4, by rw [upd_other _ _ tn]; exact f5, ?_⟩
      rcases f6 with ⟨g1, g2⟩ | ⟨g1, g2, g3⟩
      · exact .inl ⟨g1, fun x x1 x2 => hpos x (by omega) (g2 x x1 x2)⟩
      · exact .inr ⟨g1, fun x x1 x2 => hpos x (by omega) (g2 x x1 x2), fun x x1 x2 => hpos x x1 (g3 x x1 x2)⟩
  · intro r a b c
    obtain ⟨c1, c2⟩ := hfree r a c
    by_cases e : r = nx'
    · subst e
      refine ⟨pr', by rw [upd_same]; exact e2, m1, m2, ?_, ?_⟩
      · rw [hCpr]; exact hf
      · rw [hCpr]; exact e1
    · obtain ⟨t, f1, f2, f3, f4, f5⟩ := h.prev r a b c2
      have tp : t ≠ p := fun g => by subst g; omega
      have tn : t ≠ pr' := fun g => by subst g; omega
      exact ⟨t, by rw [upd_other _ _ e]; exact f1, f2, f3, hfree2 t f2 tp f4, by rw [hC t f2 tp tn]; exact f5⟩
  · intro r a b c
    by_cases e : r = p
    · subst e
      rw [hCp]
      refine ⟨q, rfl, hq, ?_⟩
      rcases hqu with g | g
      · exact .inl g
      · by_cases g0 : q = 0
        · exact .inl g0
        · exact .inr (hpos q (by omega) g)
    · by_cases e2 : r = pr'
      · subst e2; rw [hCpr] at c; omega
      · rw [hC r a e e2] at c ⊢
        obtain ⟨t, t1, t2, t3⟩ := h.par r a b c
        refine ⟨t, t1, t2, ?_⟩
        by_cases g0 : t = 0
        · exact .inl g0
        · exact t3.imp id fun g => hpos t (by omega) g
/-- A short list leaves out one of many numbers. -/
theorem leaves_out : ∀ (X : Nat) (L : List Nat), L.length < X → ∃ f, 1 ≤ f ∧ f ≤ X ∧ f ∉ L := by
  intro X
  induction X with
  | zero => intro L h; omega
  | succ X ih =>
    intro L h
    by_cases hm : X + 1 ∈ L
    · have hlen : (L.erase (X + 1)).length < X := by rw [List.length_erase_of_mem hm]; have := List.length_pos_of_mem hm; omega
      obtain ⟨f, h1, h2, h3⟩ := ih _ hlen
      refine ⟨f, h1, by omega, fun g => h3 ((List.mem_erase_of_ne (by omega)).2 g)⟩
    · exact ⟨X + 1, by omega, Nat.le_refl _, hm⟩
/-- All used cells stand in U. -/
def Used (n : Nat) (C : Nat → Int) (U : List Nat) : Prop := ∀ r, 1 ≤ r → r < n → 0 ≤ C r → r ∈ U
/-- A free cell and two more. -/
theorem Inv.three {n : Nat} {B C : Nat → Int} {U : List Nat} (h : Inv n B C) (hU : Used n C U) (hl : U.length + 4 ≤ n) {p : Nat} (hp1 : 1 ≤ p) (hp : p < n) (hf : C p < 0) :
    ∃ pr nx : Nat, B p = -(pr : Int) ∧ C p = -(nx : Int) ∧ pr < n ∧ nx < n ∧ nx ≠ pr ∧ pr ≠ p ∧ nx ≠ p ∧ 1 ≤ pr ∧ 1 ≤ nx := by
  obtain ⟨nx, e1, n1, n2, n3, n4, n5⟩ := h.next p hp1 hp hf
  obtain ⟨pr, e2, m1, m2, m3, m4⟩ := h.prev p hp1 hp hf
  obtain ⟨f, f1, f2, f3⟩ := leaves_out (n - 1) (p :: U) (by simp; omega)
  have ff : C f < 0 := by
    rcases Int.lt_or_le (C f) 0 with g | g
    · exact g
    · exact absurd (hU f f1 (by omega) g) (fun g => f3 (List.mem_cons_of_mem _ g))
  have fp : f ≠ p := fun g => f3 (by rw [g]; simp)
  obtain ⟨k, k1, k2, k3⟩ := leaves_out (n - 1) (f :: p :: U) (by simp; omega)
  have kf : C k < 0 := by
    rcases Int.lt_or_le (C k) 0 with g | g
    · exact g
    · exact absurd (hU k k1 (by omega) g) (fun g => k3 (List.mem_cons_of_mem _ (List.mem_cons_of_mem _ g)))
  have kp : k ≠ p := fun g => k3 (by rw [g]; simp)
  have kff : k ≠ f := fun g => k3 (by rw [g]; simp)
  have hnp : nx ≠ p := by
    rintro rfl
    rcases n5 with ⟨g1, g2⟩ | ⟨g1, g2, g3⟩
    · omega
    · rcases Nat.lt_or_ge nx f with g | g
      · have := g2 f g (by omega); omega
      · have := g3 f f1 (by omega); omega
  refine ⟨pr, nx, e2, e1, m2, n2, ?_, ?_, hnp, m1, n1⟩
  · rintro rfl
    obtain ⟨p2, a1, a2, a3, a4, a5, a6⟩ := h.next nx n1 n2 n3
    obtain rfl : p2 = p := by omega
    -- two cells alone: every free cell is one of them
    have key : ∀ x, 1 ≤ x → x < n → C x < 0 → x = p2 ∨ x = nx := by
      intro x x1 x2 x3
      rcases n5 with ⟨g1, g2⟩ | ⟨g1, g2, g3⟩ <;> rcases a6 with ⟨b1, b2⟩ | ⟨b1, b2, b3⟩
      · omega
      · rcases Nat.lt_trichotomy x p2 with g | g | g
        · have := b3 x x1 g; omega
        · exact .inl g
        · rcases Nat.lt_trichotomy x nx with k | k | k
          · have := g2 x g k; omega
          · exact .inr k
          · have := b2 x k x2; omega
      · rcases Nat.lt_trichotomy x nx with g | g | g
        · have := g3 x x1 g; omega
        · exact .inr g
        · rcases Nat.lt_trichotomy x p2 with k | k | k
          · have := b2 x g k; omega
          · exact .inl k
          · have := g2 x k x2; omega
      · omega
    rcases key f f1 (by omega) ff with g | g
    · exact fp g
    · rcases key k k1 (by omega) kf with g2 | g2
      · exact kp g2
      · exact kff (by rw [g, g2])
  · rintro rfl
    omega
/-- The way along the free cells to one that fits: 'rep' the first sign. -/
structure Seek (n : Nat) (C : Nat → Int) (rep : Nat) (chs : List Nat) (f : Nat → Nat) (k : Nat) : Prop where
  zero : f 0 = 0
  pos : 1 ≤ k
  step : ∀ j, j < k → C (f j) = -(f (j + 1) : Int) ∧ 1 ≤ f (j + 1) ∧ f (j + 1) < n
  notlast : ∀ j, 0 < j → j < k → C (f j) ≠ C 0
  bad : ∀ j, 0 < j → j < k → f j ≤ rep ∨ ∃ c ∈ chs, f j - rep + c < n ∧ 0 ≤ C (f j - rep + c)
  lo : rep < f k
  up : ∀ j, j < k → f j < f (j + 1)
  fits : ∀ c ∈ chs, f k - rep + c < n ∧ C (f k - rep + c) < 0
theorem Inv.chain {n : Nat} {B C : Nat → Int} (h : Inv n B C) : ∀ x, 1 ≤ x → x < n → C x < 0 → ∃ (f : Nat → Nat) (k : Nat), f 0 = 0 ∧ 1 ≤ k ∧ f k = x ∧ (∀ j, j < k → C (f j) = -(f (j + 1) : Int) ∧ 1 ≤ f (j + 1) ∧ f (j + 1) < n ∧ C (f (j + 1)) < 0 ∧ f j < f (j + 1)) ∧ (∀ j, 0 < j → j < k → C (f j) ≠ C 0) := by
  intro x
  induction x using Nat.strongRecOn with
  | _ x ih =>
    intro x1 x2 x3
    obtain ⟨hd, r1, r2, r3, r4, r5⟩ := h.root
    by_cases e : x = hd
    · subst e
      exact ⟨fun j => if j = 0 then 0 else x, 1, rfl, Nat.le_refl _, rfl, fun j hj => by obtain rfl : j = 0 := by omega
                                                                                         exact ⟨r1, x1, x2, x3, by simp; omega⟩, fun j a b => by omega⟩
    · obtain ⟨p, e2, m1, m2, m3, m4⟩ := h.prev x x1 x2 x3
      obtain ⟨q, f1, f2, f3, f4, f5, f6⟩ := h.next p m1 m2 m3
      obtain rfl : q = x := by omega
      have hdx : hd < q := by
        rcases Nat.lt_trichotomy q hd with g | g | g
        · have := r5 q x1 g; omega
        · exact absurd g e
        · exact g
      have hpq : p < q := by
        rcases f6 with ⟨g1, _⟩ | ⟨g1, g2, g3⟩
        · exact g1
        · have := g3 hd r2 hdx; omega
      obtain ⟨f, k, a0, a1, a2, a3, a4⟩ := ih p hpq m1 m2 m3
      refine ⟨fun j => if j = k + 1 then q else f j, k + 1, by simp [a0], by omega, by simp, fun j hj => ?_, fun j j1 j2 => ?_⟩
      · by_cases ej : j = k
        · subst ej
          dsimp only
          rw [if_pos rfl, if_neg (by omega), a2]
          exact ⟨m4, x1, x2, x3, hpq⟩
        · dsimp only
          rw [if_neg (by omega), if_neg (by omega)]
          exact a3 j (by omega)
      · dsimp only
        rw [if_neg (by omega)]
        by_cases ej : j = k
        · subst ej; rw [a2, m4, r1]; omega
        · exact a4 j j1 (by omega)
theorem chain_mono {C : Nat → Int} {n : Nat} {f : Nat → Nat} {k : Nat} (h : ∀ j, j < k → C (f j) = -(f (j + 1) : Int) ∧ 1 ≤ f (j + 1) ∧ f (j + 1) < n ∧ C (f (j + 1)) < 0 ∧ f j < f (j + 1)) : ∀ d j, j + d ≤ k → f j ≤ f (j + d) := by
  intro d
  induction d with
  | zero => intro j _; exact Nat.le_refl _
  | succ d ih => intro j hj; have := ih j (by omega); have := (h (j + d) (by omega)).2.2.2.2; rw [← Nat.add_assoc]; omega
/-- There is a place for some signs among the free cells. -/
theorem Inv.seek {n : Nat} {B C : Nat → Int} {U : List Nat} (h : Inv n B C) (hU : Used n C U) (rep : Nat) (chs : List Nat) (hr : rep ≤ 255) (hc : ∀ c ∈ chs, c ≤ 255) (hl : U.length * chs.length + U.length + 600 ≤ n) (hrc : rep ∈ chs) :
    ∃ f k, Seek n C rep chs f k := by
  have good : ∃ g, (1 ≤ g ∧ g + 300 ≤ n ∧ C g < 0 ∧ rep < g ∧ ∀ c ∈ chs, C (g - rep + c) < 0) := by
    obtain ⟨g, g1, g2, g3⟩ := leaves_out (n - 300) (List.range (rep + 1) ++ U ++ U.flatMap (fun u => chs.map (fun c => u + rep - c))) (by
      have hfl : (U.flatMap (fun u => chs.map (fun c => u + rep - c))).length = U.length * chs.length := by
        clear hU hl
        induction U with
        | nil => simp
        | cons u U ih => simp [List.flatMap_cons, ih, Nat.succ_mul]; omega
      simp only [List.length_append, List.length_range, hfl]; omega)
    simp only [List.mem_append, List.mem_range, List.mem_flatMap, List.mem_map, not_or, not_exists, not_and] at g3
    obtain ⟨⟨a1, a2⟩, a3⟩ := g3
    have hfree : ∀ r, 1 ≤ r → r < n → r ∉ U → C r < 0 := fun r r1 r2 r3 => by
      rcases Int.lt_or_le (C r) 0 with g | g
      · exact g
      · exact absurd (hU r r1 r2 g) r3
    refine ⟨g, g1, by omega, hfree g g1 (by omega) a2, by omega, fun c hcc => ?_⟩
    have := hc c hcc
    exact hfree _ (by omega) (by omega) fun hu => a3 (g - rep + c) hu c hcc (by omega)
  -- the least one
  have least : ∀ m, (∃ g, g ≤ m ∧ (1 ≤ g ∧ g + 300 ≤ n ∧ C g < 0 ∧ rep < g ∧ ∀ c ∈ chs, C (g - rep + c) < 0)) → ∃ g, (1 ≤ g ∧ g + 300 ≤ n ∧ C g < 0 ∧ rep < g ∧ ∀ c ∈ chs, C (g - rep + c) < 0) ∧ ∀ y, y < g → ¬ (1 ≤ y ∧ y + 300 ≤ n ∧ C y < 0 ∧ rep < y ∧ ∀ c ∈ chs, C (y - rep + c) < 0) := by
    intro m
    induction m with
    | zero => rintro ⟨g, a, b, _⟩; omega
    | succ m ih =>
      rintro ⟨g, a, b⟩
      by_cases e : ∃ y, y ≤ m ∧ (1 ≤ y ∧ y + 300 ≤ n ∧ C y < 0 ∧ rep < y ∧ ∀ c ∈ chs, C (y - rep + c) < 0)
      · exact ih e
      · obtain rfl : g = m + 1 := by
          rcases Nat.lt_or_ge g (m + 1) with k | k
          · exact absurd ⟨g, by omega, b⟩ e
          · omega
        exact ⟨m + 1, b, fun y hy hg => e ⟨y, by omega, hg⟩⟩
  obtain ⟨g0, hg0⟩ := good
  obtain ⟨g, ⟨b1, b2, b3, b4, b5⟩, hmin⟩ := least g0 ⟨g0, Nat.le_refl _, hg0⟩
  obtain ⟨f, k, a0, a1, a2, a3, a4⟩ := h.chain g b1 (by omega) b3
  refine ⟨f, k, a0, a1, fun j hj => ⟨(a3 j hj).1, (a3 j hj).2.1, (a3 j hj).2.2.1⟩, a4, fun j j1 j2 => ?_, by rw [a2]; exact b4, fun j hj => (a3 j hj).2.2.2.2, fun c hcc => by rw [a2]; have := hc c hcc; exact ⟨by omega, b5 c hcc⟩⟩
  obtain ⟨i, rfl⟩ : ∃ i, j = i + 1 := ⟨j - 1, by omega⟩
  have hfj := a3 i (by omega)
  have hlt : f (i + 1) < g := by
    have h1 : f (i + 1) < f (i + 2) := (a3 (i + 1) j2).2.2.2.2
    have h2 := chain_mono a3 (k - (i + 2)) (i + 2) (by omega)
    rw [show i + 2 + (k - (i + 2)) = k by omega, a2] at h2
    omega
  by_cases e : f (i + 1) ≤ rep
  · exact .inl e
  · refine .inr ?_
    have hn := hmin _ hlt
    by_cases e2 : ∀ c ∈ chs, C (f (i + 1) - rep + c) < 0
    · exact absurd ⟨hfj.2.1, by omega, hfj.2.2.2.1, by omega, e2⟩ hn
    · simp only [Classical.not_forall] at e2
      obtain ⟨c, hcc, hx⟩ := e2
      have := hc c hcc
      exact ⟨c, hcc, by omega, by omega⟩
end Go.Proofs.Ytddcjmdcpkmnjaa.Da
namespace Go.Proofs.Ytddcjmdcpkmnjaa.Da
structure Marked (n p base : Nat) (B C : Nat → Int) (chs : List Nat) (B' C' : Nat → Int) : Prop where
  inv : Inv n B' C'
  based : B' p = (base : Int)
  new : ∀ c ∈ chs, base + c < n ∧ C (base + c) < 0 ∧ C' (base + c) = (p : Int)
  old : ∀ r, 1 ≤ r → r < n → 0 ≤ C r → C' r = C r
  free : ∀ r, 1 ≤ r → r < n → C r < 0 → (∀ c ∈ chs, r ≠ base + c) → C' r < 0
  same : ∀ r, r < n → r ≠ p → (r = 0 ∨ 0 ≤ C r) → B' r = B r
theorem Marked.used {n p base : Nat} {B C B' C' : Nat → Int} {chs U : List Nat} (h : Marked n p base B C chs B' C') (hU : Used n C U) : Used n C' (chs.map (base + ·) ++ U) := by
  intro r r1 r2 r3
  rw [List.mem_append]
  by_cases e : 0 ≤ C r
  · exact .inr (hU r r1 r2 e)
  · by_cases e2 : ∀ c ∈ chs, r ≠ base + c
    · have := h.free r r1 r2 (by omega) e2; omega
    · simp only [Classical.not_forall, Classical.not_not, ne_eq] at e2
      obtain ⟨c, hc, hx⟩ := e2
      exact .inl (List.mem_map.2 ⟨c, hc, hx.symm⟩)
theorem Marked.start {n p base : Nat} {B C : Nat → Int} (h : Inv n B C) (hp : p < n) (hpu : p = 0 ∨ 0 ≤ C p) (hb : p = 0 → B 0 = (base : Int)) : Marked n p base B C [] (if p = 0 then B else upd B p base) C := by
  refine ⟨?_, ?_, by simp, fun _ _ _ _ => rfl, fun _ _ _ h _ => h, fun r r1 r2 _ => ?_⟩
  · by_cases e : p = 0
    · rw [if_pos e]; exact h
    · rw [if_neg e]
      have hu : 0 ≤ C p := hpu.resolve_left e
      refine ⟨h.root, fun x a b c => ?_, fun x a b c => ?_, h.par⟩
      · obtain ⟨q, q1, q2, q3, q4, q5, q6⟩ := h.next x a b c
        exact ⟨q, q1, q2, q3, q4, by rw [upd_other _ _ (fun g => by subst g; omega)]; exact q5, q6⟩
      · obtain ⟨q, q1, q2, q3, q4, q5⟩ := h.prev x a b c
        exact ⟨q, by rw [upd_other _ _ (fun g => by subst g; omega)]; exact q1, q2, q3, q4, q5⟩
  · by_cases e : p = 0
    · rw [if_pos e]; subst e; exact hb rfl
    · rw [if_neg e]; exact upd_same _ _ _
  · by_cases e : p = 0
    · rw [if_pos e]
    · rw [if_neg e]; exact upd_other _ _ r2
theorem Marked.step {n p base c : Nat} {B C B' C' : Nat → Int} {chs : List Nat} (h : Marked n p base B C chs B' C') (hp : p < n) (hpu : p = 0 ∨ 0 ≤ C p) (hb : 1 ≤ base) (hc : c ∉ chs) (hn : base + c < n) (hf : C (base + c) < 0)
    {pr nx : Nat} (hpr : B' (base + c) = -(pr : Int)) (hnx : C' (base + c) = -(nx : Int)) (hne : nx ≠ pr) (hpp : pr ≠ base + c) (hpn : nx ≠ base + c) :
    Marked n p base B C (chs ++ [c]) (upd B' nx (B' (base + c))) (upd (upd (head C' (base + c) (C' (base + c))) pr (C' (base + c))) (base + c) p) := by
  have hf' : C' (base + c) < 0 := h.free _ (by omega) hn hf (fun c2 h2 e => hc (by rw [show c = c2 from by omega]; exact h2))
  obtain ⟨nx2, e1, n1, n2, n3, n4, n5⟩ := h.inv.next _ (by omega) hn hf'
  obtain rfl : nx2 = nx := by omega
  obtain ⟨pr2, e2, m1, m2, m3, m4⟩ := h.inv.prev _ (by omega) hn hf'
  obtain rfl : pr2 = pr := by omega
  have hpu' : p = 0 ∨ 0 ≤ C' p := by
    rcases hpu with g | g
    · exact .inl g
    · by_cases e : p = 0
      · exact .inl e
      · rw [h.old p (by omega) hp g]; exact .inr g
  have hold : ∀ r, 1 ≤ r → 0 ≤ C' r → r ≠ base + c → upd (upd (head C' (base + c) (C' (base + c))) pr2 (C' (base + c))) (base + c) p r = C' r := fun r r1 r2 r3 => by
    rw [upd_other _ _ r3, upd_other _ _ (fun g => by subst g; omega), head_pos _ _ _ r1]
  refine ⟨h.inv.mark (by omega) hn hf' hnx hpr hne hpp hpn hp hpu', ?_, ?_, ?_, ?_, ?_⟩
  · rw [upd_other]
    · exact h.based
    · rintro rfl; rcases hpu' with g | g <;> omega
  · intro c2 h2
    rcases List.mem_append.1 h2 with g | g
    · obtain ⟨g1, g2, g3⟩ := h.new c2 g
      have hcc : c2 ≠ c := fun e => hc (by rw [← e]; exact g)
      exact ⟨g1, g2, by rw [hold _ (by omega) (by omega) (by omega)]; exact g3⟩
    · have : c2 = c := by simpa using g
      subst this
      exact ⟨hn, hf, upd_same _ _ _⟩
  · intro r r1 r2 r3
    have := h.old r r1 r2 r3
    rw [hold r r1 (by omega) (fun g => by subst g; omega)]
    exact this
  · intro r r1 r2 r3 r4
    have hr := h.free r r1 r2 r3 (fun c2 h2 => r4 c2 (List.mem_append_left _ h2))
    have hrc : r ≠ base + c := r4 c (by simp)
    rw [upd_other _ _ hrc]
    by_cases e : r = pr2
    · subst e; rw [upd_same]; exact hf'
    · rw [upd_other _ _ e, head_pos _ _ _ r1]; exact hr
  · intro r r1 r2 r3
    rw [upd_other _ _ (fun g => by
      subst g
      rcases r3 with g | g
      · omega
      · have := h.old r n1 n2 g; omega)]
    exact h.same r r1 r2 r3
end Go.Proofs.Ytddcjmdcpkmnjaa.Da
namespace Go.Proofs.Ytddcjmdcpkmnjaa.Da
/-- The sign at a place: 0 behind the end. -/
def chAt (s : ByteArray) (i : Nat) : Nat := if i < s.size then (s.get! i).toNat else 0
def wd (kw : List ByteArray) (x : Nat) : ByteArray := kw.getD x ⟨#[]⟩
/-- The signs at place i, each run once. -/
def addCh (cs : List Nat) (c : Nat) : List Nat := if cs.getLast? = some c then cs else cs ++ [c]
def chsOf (kw : List ByteArray) (i : Nat) (br : List Nat) : List Nat := br.foldl (fun cs x => addCh cs (chAt (wd kw x) i)) []
def sub (kw : List ByteArray) (i : Nat) (br : List Nat) (c : Nat) : List Nat := br.filter (fun x => chAt (wd kw x) i = c)
def cnt (kw : List ByteArray) (i : Nat) (br : List Nat) : Nat := (br.map (fun x => (wd kw x).size + 1 - i)).sum
theorem chAt_le (s : ByteArray) (i : Nat) : chAt s i ≤ 255 := by
  unfold chAt
  split
  · have := (s.get! i).toNat_lt; omega
  · omega
theorem chsOf_append (kw : List ByteArray) (i : Nat) (br : List Nat) (x : Nat) : chsOf kw i (br ++ [x]) = addCh (chsOf kw i br) (chAt (wd kw x) i) := by simp [chsOf]
theorem mem_addCh (cs : List Nat) (c d : Nat) : d ∈ addCh cs c ↔ d ∈ cs ∨ d = c := by
  unfold addCh
  split
  · rename_i h
    constructor
    · exact .inl
    · rintro (h1 | rfl)
      · exact h1
      · exact List.mem_of_getLast? h
  · simp
theorem mem_foldCh (kw : List ByteArray) (i : Nat) (c : Nat) : ∀ (br : List Nat) (cs : List Nat), c ∈ br.foldl (fun cs x => addCh cs (chAt (wd kw x) i)) cs ↔ c ∈ cs ∨ ∃ x ∈ br, chAt (wd kw x) i = c := by
  intro br
  induction br with
  | nil => intro cs; simp
  | cons x br ih =>
    intro cs
    rw [List.foldl_cons, ih, mem_addCh]
    constructor
    · rintro ((h | rfl) | ⟨y, h1, h2⟩)
      · exact .inl h
      · exact .inr ⟨x, by simp, rfl⟩
      · exact .inr ⟨y, by simp [h1], h2⟩
    · rintro (h | ⟨y, h1, h2⟩)
      · exact .inl (.inl h)
      · rcases List.mem_cons.1 h1 with rfl | h1
        · exact .inl (.inr h2.symm)
        · exact .inr ⟨y, h1, h2⟩
theorem mem_chsOf (kw : List ByteArray) (i : Nat) (br : List Nat) (c : Nat) : c ∈ chsOf kw i br ↔ ∃ x ∈ br, chAt (wd kw x) i = c := by
  unfold chsOf; rw [mem_foldCh]; simp
theorem length_addCh (cs : List Nat) (c : Nat) : (addCh cs c).length ≤ cs.length + 1 := by unfold addCh; split <;> simp
theorem length_chsOf (kw : List ByteArray) (i : Nat) (br : List Nat) : (chsOf kw i br).length ≤ br.length := by
  have : ∀ (br cs : List Nat), (br.foldl (fun cs x => addCh cs (chAt (wd kw x) i)) cs).length ≤ cs.length + br.length := by
    intro br
    induction br with
    | nil => intro cs; simp
    | cons x br ih => intro cs; rw [List.foldl_cons]; have := ih (addCh cs (chAt (wd kw x) i)); have := length_addCh cs (chAt (wd kw x) i); simp; omega
  have := this br []
  simpa [chsOf] using this
theorem chsOf_ne_nil (kw : List ByteArray) (i : Nat) {br : List Nat} (h : br ≠ []) : chsOf kw i br ≠ [] := by
  intro e
  obtain ⟨x, hx⟩ := List.exists_mem_of_ne_nil br h
  have := (mem_chsOf kw i br (chAt (wd kw x) i)).2 ⟨x, hx, rfl⟩
  rw [e] at this; cases this
theorem cnt_sub (kw : List ByteArray) (i : Nat) (c : Nat) : ∀ br, cnt kw i br = cnt kw i (sub kw i br c) + cnt kw i (br.filter (fun x => ¬ chAt (wd kw x) i = c)) := by
  intro br
  induction br with
  | nil => rfl
  | cons x br ih =>
    unfold cnt sub at *
    by_cases e : chAt (wd kw x) i = c
    · simp [e, ih]; omega
    · simp [e, ih]; omega
/-- A tree of words is fit: at each place the signs' runs differ. -/
def Fit (kw : List ByteArray) : Nat → Nat → List Nat → Prop
  | 0, _, _ => False
  | k + 1, i, br => br ≠ [] ∧ (∀ x ∈ br, x < kw.length ∧ i ≤ (wd kw x).size) ∧ (chsOf kw i br).Nodup ∧ (0 ∈ chsOf kw i br → ∃ x r, br = x :: r ∧ chAt (wd kw x) i = 0) ∧ ∀ c ∈ chsOf kw i br, c ≠ 0 → Fit kw k (i + 1) (sub kw i br c)
/-- What turns while cells below those of D are made. -/
structure Ext (n : Nat) (D : Nat → Prop) (B C B' C' : Nat → Int) : Prop where
  old : ∀ r, 1 ≤ r → r < n → 0 ≤ C r → C' r = C r
  base : ∀ r, r < n → (r = 0 ∨ 0 ≤ C r) → ¬ D r → B' r = B r
  new : ∀ r, 1 ≤ r → r < n → C r < 0 → 0 ≤ C' r → ∃ p : Nat, C' r = (p : Int) ∧ (D p ∨ (1 ≤ p ∧ p < n ∧ C p < 0))
theorem Ext.refl (n : Nat) (D : Nat → Prop) (B C : Nat → Int) : Ext n D B C B C := ⟨fun _ _ _ _ => rfl, fun _ _ _ _ => rfl, fun r _ _ h1 h2 => by omega⟩
theorem Ext.trans {n : Nat} {D D1 : Nat → Prop} {B C B1 C1 B2 C2 : Nat → Int} (h : Ext n D B C B1 C1) (k : Ext n D1 B1 C1 B2 C2) (hd : ∀ r, D1 r → D r ∨ (1 ≤ r ∧ r < n ∧ C r < 0)) : Ext n D B C B2 C2 := by
  refine ⟨fun r a b c => ?_, fun r a b c => ?_, fun r a b c d => ?_⟩
  · have e := h.old r a b c
    rw [k.old r a b (by omega), e]
  · have e := h.base r a b c
    rw [k.base r a _ _, e]
    · rcases b with b | b
      · exact .inl b
      · by_cases z : r = 0
        · exact .inl z
        · rw [h.old r (by omega) a b]; exact .inr b
    · intro g
      rcases hd r g with g | ⟨g1, g2, g3⟩
      · exact c g
      · rcases b with b | b <;> omega
  · by_cases e : 0 ≤ C1 r
    · rw [k.old r a b e]
      exact h.new r a b c e
    · obtain ⟨p, p1, p2⟩ := k.new r a b (by omega) d
      refine ⟨p, p1, ?_⟩
      rcases p2 with p2 | ⟨p2, p3, p4⟩
      · exact hd p p2
      · refine .inr ⟨p2, p3, ?_⟩
        rcases Int.lt_or_le (C p) 0 with g | g
        · exact g
        · rw [h.old p p2 p3 g] at p4; omega
theorem Marked.ext {n p base : Nat} {B C B' C' : Nat → Int} {chs : List Nat} (h : Marked n p base B C chs B' C') (hb : 1 ≤ base) : Ext n (· = p) B C B' C' := by
  refine ⟨h.old, fun r a b c => h.same r a c b, fun r a b c d => ?_⟩
  by_cases e : ∀ q ∈ chs, r ≠ base + q
  · have := h.free r a b c e; omega
  · simp only [Classical.not_forall, Classical.not_not, ne_eq] at e
    obtain ⟨q, q1, q2⟩ := e
    exact ⟨p, by rw [q2]; exact (h.new q q1).2.2, .inl rfl⟩
/-- From cell p on the cells hold the words br from place i on; all cells below p are ones of F. -/
def Node (n : Nat) (F : Nat → Prop) (B C : Nat → Int) (kw : List ByteArray) (ids : List Int) : Nat → Nat → Nat → List Nat → Prop
  | 0, _, _, _ => False
  | k + 1, p, i, br => ∃ base : Nat, B p = (base : Int) ∧ 1 ≤ base ∧ ∀ c, c ≤ 255 →
      (c ∉ chsOf kw i br → base + c < n → C (base + c) ≠ (p : Int)) ∧
      (c ∈ chsOf kw i br → base + c < n ∧ C (base + c) = (p : Int) ∧ F (base + c) ∧ (c = 0 → B (base + c) = -(ids.getD (br.headD 0) 0)) ∧ (c ≠ 0 → Node n F B C kw ids k (base + c) (i + 1) (sub kw i br c)))
theorem Node.mono {n : Nat} {F G : Nat → Prop} {B C : Nat → Int} {kw : List ByteArray} {ids : List Int} (hFG : ∀ r, F r → G r) : ∀ (k p i : Nat) (br : List Nat), Node n F B C kw ids k p i br → Node n G B C kw ids k p i br := by
  intro k
  induction k with
  | zero => intro p i br h; exact h
  | succ k ih =>
    intro p i br h
    obtain ⟨base, h1, h2, h3⟩ := h
    refine ⟨base, h1, h2, fun c hc => ⟨(h3 c hc).1, fun hm => ?_⟩⟩
    obtain ⟨a1, a2, a3, a4, a5⟩ := (h3 c hc).2 hm
    exact ⟨a1, a2, hFG _ a3, a4, fun h0 => ih _ _ _ (a5 h0)⟩
theorem Node.ext {n : Nat} {F D : Nat → Prop} {B C B' C' : Nat → Int} {kw : List ByteArray} {ids : List Int} (hE : Ext n D B C B' C') (hFD : ∀ r, F r → ¬ D r) : ∀ (k p i : Nat) (br : List Nat), Node n F B C kw ids k p i br → p < n → (p = 0 ∨ 0 ≤ C p) → ¬ D p → Node n F B' C' kw ids k p i br := by
  intro k
  induction k with
  | zero => intro p i br h; exact h.elim
  | succ k ih =>
    intro p i br h hp hpu hD
    obtain ⟨base, h1, h2, h3⟩ := h
    refine ⟨base, by rw [hE.base p hp hpu hD]; exact h1, h2, fun c hc => ⟨fun hm hn e => ?_, fun hm => ?_⟩⟩
    · have hne := (h3 c hc).1 hm hn
      rcases Int.lt_or_le (C (base + c)) 0 with g | g
      · obtain ⟨q, q1, q2⟩ := hE.new (base + c) (by omega) hn g (by omega)
        have : q = p := by omega
        subst this
        rcases q2 with q2 | ⟨q2, q3, q4⟩
        · exact hD q2
        · rcases hpu with z | z <;> omega
      · rw [hE.old _ (by omega) hn g] at e; exact hne e
    · obtain ⟨a1, a2, a3, a4, a5⟩ := (h3 c hc).2 hm
      have hu : 0 ≤ C (base + c) := by omega
      refine ⟨a1, by rw [hE.old _ (by omega) a1 hu]; exact a2, a3, fun h0 => ?_, fun h0 => ih _ _ _ (a5 h0) a1 (.inr hu) (hFD _ a3)⟩
      rw [hE.base _ a1 (.inr hu) (hFD _ a3)]
      exact a4 h0
end Go.Proofs.Ytddcjmdcpkmnjaa.Da
namespace Go.Proofs.Ytddcjmdcpkmnjaa.Da
def cost (kw : List ByteArray) (i : Nat) (br cs : List Nat) : Nat := (cs.map (fun c => if c = 0 then 0 else cnt kw (i + 1) (sub kw i br c))).sum
theorem cost_append (kw : List ByteArray) (i : Nat) (br a b : List Nat) : cost kw i br (a ++ b) = cost kw i br a + cost kw i br b := by simp [cost]
theorem sum_filter_or (f : Nat → Nat) (P Q : Nat → Bool) (h : ∀ x, P x = true → Q x = true → False) : ∀ l : List Nat, ((l.filter (fun x => P x || Q x)).map f).sum = ((l.filter P).map f).sum + ((l.filter Q).map f).sum := by
  intro l
  induction l with
  | nil => rfl
  | cons x l ih =>
    have hx := h x
    cases hP : P x <;> cases hQ : Q x
    · simp [hP, hQ, ih]
    · simp [hP, hQ, ih]; omega
    · simp [hP, hQ, ih]; omega
    · exact (hx hP hQ).elim
theorem sum_filter_le (f : Nat → Nat) (P : Nat → Bool) : ∀ l : List Nat, ((l.filter P).map f).sum ≤ (l.map f).sum := by
  intro l
  induction l with
  | nil => exact Nat.le_refl _
  | cons x l ih =>
    cases hP : P x <;> simp [hP] <;> omega
theorem sum_ge {f g : Nat → Nat} : ∀ {l : List Nat}, (∀ x ∈ l, g x + 1 ≤ f x) → (l.map g).sum + l.length ≤ (l.map f).sum := by
  intro l
  induction l with
  | nil => intro _; exact Nat.le_refl _
  | cons x l ih =>
    intro h
    have h1 := h x (by simp)
    have h2 := ih (fun y hy => h y (by simp [hy]))
    simp only [List.map_cons, List.sum_cons, List.length_cons]
    omega
theorem cost_le (kw : List ByteArray) (i : Nat) (br : List Nat) (hb : ∀ x ∈ br, i ≤ (wd kw x).size) : ∀ cs : List Nat, cs.Nodup → (∀ c ∈ cs, c ∈ chsOf kw i br) →
    cs.length + cost kw i br cs ≤ ((br.filter (fun x => decide (chAt (wd kw x) i ∈ cs))).map (fun x => (wd kw x).size + 1 - i)).sum := by
  intro cs
  induction cs with
  | nil => intro _ _; simp [cost]
  | cons c cs ih =>
    intro hn hm
    rw [List.nodup_cons] at hn
    have h1 := ih hn.2 (fun d hd => hm d (by simp [hd]))
    have h2 := sum_filter_or (fun x => (wd kw x).size + 1 - i) (fun x => decide (chAt (wd kw x) i = c)) (fun x => decide (chAt (wd kw x) i ∈ cs)) (fun x a b => hn.1 (by
      have a := of_decide_eq_true a
      have b := of_decide_eq_true b
      rwa [a] at b)) br
    have h3 : (fun x => decide (chAt (wd kw x) i ∈ c :: cs)) = (fun x => decide (chAt (wd kw x) i = c) || decide (chAt (wd kw x) i ∈ cs)) := by
      funext x; simp [List.mem_cons]
    rw [h3, h2]
    have h4 : cost kw i br (c :: cs) = (if c = 0 then 0 else cnt kw (i + 1) (sub kw i br c)) + cost kw i br cs := by simp [cost]
    rw [h4]
    have h5 : 1 + (if c = 0 then 0 else cnt kw (i + 1) (sub kw i br c)) ≤ ((br.filter (fun x => decide (chAt (wd kw x) i = c))).map (fun x => (wd kw x).size + 1 - i)).sum := by
      obtain ⟨x, hx1, hx2⟩ := (mem_chsOf kw i br c).1 (hm c (by simp))
      have hne : 1 ≤ (br.filter (fun x => decide (chAt (wd kw x) i = c))).length := List.length_pos_of_mem (List.mem_filter.2 ⟨hx1, decide_eq_true hx2⟩)
      by_cases e : c = 0
      · rw [if_pos e]
        have := sum_ge (f := fun x => (wd kw x).size + 1 - i) (g := fun _ => 0) (l := br.filter (fun x => decide (chAt (wd kw x) i = c))) (fun y hy => by
          have := hb y (List.mem_filter.1 hy).1
          omega)
        have h0 : ∀ l : List Nat, (l.map (fun _ => 0)).sum = 0 := by
          intro l
          induction l with
          | nil => rfl
          | cons x l ih => rw [List.map_cons, List.sum_cons, ih]
        have h0 := h0 (br.filter (fun x => decide (chAt (wd kw x) i = c)))
        omega
      · rw [if_neg e]
        have := sum_ge (f := fun x => (wd kw x).size + 1 - i) (g := fun x => (wd kw x).size + 1 - (i + 1)) (l := br.filter (fun x => decide (chAt (wd kw x) i = c))) (fun y hy => by
          have hy2 := of_decide_eq_true (List.mem_filter.1 hy).2
          have : i < (wd kw y).size := by
            unfold chAt at hy2
            split at hy2
            · assumption
            · omega
          omega)
        unfold cnt sub
        omega
    simp only [List.length_cons]
    omega
theorem cost_all (kw : List ByteArray) (i : Nat) (br : List Nat) (hb : ∀ x ∈ br, i ≤ (wd kw x).size) (hn : (chsOf kw i br).Nodup) : (chsOf kw i br).length + cost kw i br (chsOf kw i br) ≤ cnt kw i br := by
  have h1 := cost_le kw i br hb _ hn (fun _ h => h)
  have h2 := sum_filter_le (fun x => (wd kw x).size + 1 - i) (fun x => decide (chAt (wd kw x) i ∈ chsOf kw i br)) br
  unfold cnt
  omega
theorem Inv.setUsed {n : Nat} {B C : Nat → Int} (h : Inv n B C) (q : Nat) (x : Int) (hq : 0 ≤ C q) : Inv n (upd B q x) C := by
  refine ⟨h.root, fun p a b c => ?_, fun p a b c => ?_, h.par⟩
  · obtain ⟨r, q1, q2, q3, q4, q5, q6⟩ := h.next p a b c
    exact ⟨r, q1, q2, q3, q4, by rw [upd_other _ _ (fun g => by subst g; omega)]; exact q5, q6⟩
  · obtain ⟨r, q1, q2, q3, q4, q5⟩ := h.prev p a b c
    exact ⟨r, by rw [upd_other _ _ (fun g => by subst g; omega)]; exact q1, q2, q3, q4, q5⟩
/-- Behind the signs of the first j of all: their trees stand. -/
structure Grow (n p base k i : Nat) (B C C1 : Nat → Int) (kw : List ByteArray) (ids : List Int) (br : List Nat) (U : List Nat) (j : Nat) (Bj Cj : Nat → Int) (Uj : List Nat) : Prop where
  inv : Inv n Bj Cj
  used : Used n Cj Uj
  len : Uj.length ≤ U.length + (chsOf kw i br).length + cost kw i br ((chsOf kw i br).take j)
  ext : Ext n (· = p) B C Bj Cj
  bp : Bj p = (base : Int)
  kids : ∀ c ∈ chsOf kw i br, base + c < n ∧ Cj (base + c) = (p : Int) ∧ C (base + c) < 0
  only : ∀ r, 1 ≤ r → r < n → Cj r = (p : Int) → ∃ c ∈ chsOf kw i br, r = base + c
  free1 : ∀ r, 1 ≤ r → r < n → Cj r < 0 → C1 r < 0
  done : ∀ c ∈ (chsOf kw i br).take j, (c = 0 → Bj base = -(ids.getD (br.headD 0) 0)) ∧ (c ≠ 0 → Node n (fun r => 1 ≤ r ∧ r < n ∧ C1 r < 0) Bj Cj kw ids k (base + c) (i + 1) (sub kw i br c))
  pend : ∀ c ∈ (chsOf kw i br).drop j, ∀ r, 1 ≤ r → r < n → Cj r ≠ ((base + c : Nat) : Int)
theorem Grow.start {n p base k i : Nat} {B C B1 C1 : Nat → Int} {kw : List ByteArray} {ids : List Int} {br U : List Nat} (h : Marked n p base B C (chsOf kw i br) B1 C1) (hI : Inv n B C) (hU : Used n C U) (hb : 1 ≤ base) (hpu : p = 0 ∨ 0 ≤ C p) (hp : p < n)
    (hno : ∀ r, 1 ≤ r → r < n → C r ≠ (p : Int)) : Grow n p base k i B C C1 kw ids br U 0 B1 C1 ((chsOf kw i br).map (base + ·) ++ U) := by
  refine ⟨h.inv, h.used hU, by simp [cost]; omega, h.ext hb, h.based, fun c hc => ?_, fun r a b c => ?_, fun r _ _ h => h, by simp, fun c hc r a b e => ?_⟩
  · obtain ⟨g1, g2, g3⟩ := h.new c hc
    exact ⟨g1, g3, g2⟩
  · rcases Int.lt_or_le (C r) 0 with g | g
    · by_cases e : ∀ q ∈ chsOf kw i br, r ≠ base + q
      · have := h.free r a b g e; omega
      · simp only [Classical.not_forall, Classical.not_not, ne_eq] at e
        obtain ⟨q, q1, q2⟩ := e
        exact ⟨q, q1, q2⟩
    · rw [h.old r a b g] at c
      exact absurd c (hno r a b)
  · have hc' : c ∈ chsOf kw i br := List.mem_of_mem_drop hc
    obtain ⟨g1, g2, g3⟩ := h.new c hc'
    rcases Int.lt_or_le (C r) 0 with g | g
    · by_cases e2 : ∀ q ∈ chsOf kw i br, r ≠ base + q
      · have := h.free r a b g e2; omega
      · simp only [Classical.not_forall, Classical.not_not, ne_eq] at e2
        obtain ⟨q, q1, q2⟩ := e2
        have := (h.new q q1).2.2
        rw [q2] at e
        have e3 : p = base + c := by omega
        rcases hpu with z | z
        · omega
        · rw [e3] at z; omega
    · rw [h.old r a b g] at e
      obtain ⟨t, t1, t2, t3⟩ := hI.par r a b g
      have : t = base + c := by omega
      subst this
      rcases t3 with t3 | t3 <;> omega
theorem take_succ_get {l : List Nat} {j : Nat} (h : j < l.length) : l.take (j + 1) = l.take j ++ [l[j]] := List.take_succ_eq_append_getElem h
theorem Grow.leaf {n p base k i j : Nat} {B C C1 Bj Cj : Nat → Int} {kw : List ByteArray} {ids : List Int} {br U Uj : List Nat} (h : Grow n p base k i B C C1 kw ids br U j Bj Cj Uj) (hj : j < (chsOf kw i br).length) (hc : (chsOf kw i br)[j] = 0) (hpu : p = 0 ∨ 0 ≤ C p) (hb : 1 ≤ base)
    (hn : (chsOf kw i br).Nodup) (hused : ∀ c ∈ chsOf kw i br, 0 ≤ C1 (base + c)) : Grow n p base k i B C C1 kw ids br U (j + 1) (upd Bj base (-(ids.getD (br.headD 0) 0))) Cj Uj := by
  have hm : (chsOf kw i br)[j] ∈ chsOf kw i br := List.getElem_mem _
  rw [hc] at hm
  obtain ⟨k1, k2, k3⟩ := h.kids 0 hm
  rw [Nat.add_zero] at k1 k2 k3
  have hbp : p ≠ base := by rintro rfl; rcases hpu with z | z <;> omega
  refine ⟨h.inv.setUsed _ _ (by omega), h.used, by rw [take_succ_get hj, cost_append, hc]; have := h.len; omega, ⟨h.ext.old, fun r a b c => ?_, h.ext.new⟩, by rw [upd_other _ _ hbp]; exact h.bp, h.kids, h.only, h.free1, fun c hc2 => ?_, fun c hc2 => h.pend c ?_⟩
  · rw [upd_other _ _ (fun g => by subst g; rcases b with b | b <;> omega)]
    exact h.ext.base r a b c
  · rw [take_succ_get hj, hc] at hc2
    rcases List.mem_append.1 hc2 with g | g
    · have hc0 : c ≠ 0 := by
        rintro rfl
        rw [← List.take_append_drop (j + 1) (chsOf kw i br), take_succ_get hj, hc, List.append_assoc, List.nodup_append] at hn
        exact hn.2.2 0 g 0 (by simp) rfl
      refine ⟨fun e => absurd e hc0, fun _ => ?_⟩
      have hN := (h.done c g).2 hc0
      have hcm : c ∈ chsOf kw i br := List.mem_of_mem_take g
      have hu0 := hused 0 hm
      rw [Nat.add_zero] at hu0
      obtain ⟨q1, q2, q3⟩ := h.kids c hcm
      exact Node.ext (D := (· = base)) ⟨fun _ _ _ _ => rfl, fun r _ _ d => upd_other _ _ d, fun r _ _ d1 d2 => by omega⟩ (fun r hr e => by rw [e] at hr; omega) k (base + c) (i + 1) _ hN q1 (.inr (by omega)) (by omega)
    · have : c = 0 := by simpa using g
      subst this
      exact ⟨fun _ => upd_same _ _ _, fun g => absurd rfl g⟩
  · have : (chsOf kw i br).drop j = (chsOf kw i br)[j] :: (chsOf kw i br).drop (j + 1) := List.drop_eq_getElem_cons hj
    rw [this]
    exact List.mem_cons_of_mem _ hc2
/-- What add leaves. -/
def Added (n p k i : Nat) (B C : Nat → Int) (kw : List ByteArray) (ids : List Int) (br U : List Nat) (B' C' : Nat → Int) : Prop :=
  ∃ U' : List Nat, Inv n B' C' ∧ Used n C' U' ∧ U'.length ≤ U.length + cnt kw i br ∧ Ext n (· = p) B C B' C' ∧ Node n (fun r => 1 ≤ r ∧ r < n ∧ C r < 0) B' C' kw ids k p i br
theorem Grow.below {n p base k i j : Nat} {B C C1 Bj Cj B2 C2 : Nat → Int} {kw : List ByteArray} {ids : List Int} {br U Uj : List Nat} (h : Grow n p base k i B C C1 kw ids br U j Bj Cj Uj) (hj : j < (chsOf kw i br).length) (hc : (chsOf kw i br)[j] ≠ 0) (hpu : p = 0 ∨ 0 ≤ C p) (hp : p < n) (hb : 1 ≤ base)
    (hn : (chsOf kw i br).Nodup) (hused : ∀ c ∈ chsOf kw i br, 0 ≤ C1 (base + c)) (hA : Added n (base + (chsOf kw i br)[j]) k (i + 1) Bj Cj kw ids (sub kw i br (chsOf kw i br)[j]) Uj B2 C2) : ∃ U2, Grow n p base k i B C C1 kw ids br U (j + 1) B2 C2 U2 := by
  obtain ⟨U2, a1, a2, a3, a4, a5⟩ := hA
  generalize hcv : (chsOf kw i br)[j] = c0 at *
  have hm : c0 ∈ chsOf kw i br := by rw [← hcv]; exact List.getElem_mem _
  obtain ⟨k1, k2, k3⟩ := h.kids c0 hm
  have hqu := hused c0 hm
  have hpq : p ≠ base + c0 := by
    intro e
    rcases hpu with z | z
    · omega
    · rw [e] at z; omega
  have hpj : p = 0 ∨ 0 ≤ Cj p := by
    by_cases z : p = 0
    · exact .inl z
    · right
      rw [h.ext.old p (by omega) hp (hpu.resolve_left z)]
      exact hpu.resolve_left z
  have hnotin : c0 ∉ (chsOf kw i br).take j := by
    intro g
    rw [← List.take_append_drop (j + 1) (chsOf kw i br), take_succ_get hj, hcv, List.append_assoc, List.nodup_append] at hn
    exact hn.2.2 c0 g c0 (by simp) rfl
  have hnotin2 : c0 ∉ (chsOf kw i br).drop (j + 1) := by
    intro g
    rw [← List.take_append_drop (j + 1) (chsOf kw i br), take_succ_get hj, hcv, List.nodup_append] at hn
    exact hn.2.2 c0 (by simp) c0 g rfl
  refine ⟨U2, a1, a2, ?_, h.ext.trans a4 (fun r e => .inr (by rw [e]; exact ⟨by omega, k1, k3⟩)), ?_, fun c hc2 => ?_, fun r a b e => ?_, fun r a b e => ?_, fun c hc2 => ?_, fun c hc2 r a b e => ?_⟩
  · rw [take_succ_get hj, hcv, cost_append]
    have h1 : cost kw i br [c0] = cnt kw (i + 1) (sub kw i br c0) := by simp [cost, hc]
    have := h.len
    omega
  · rw [a4.base p hp hpj hpq]; exact h.bp
  · obtain ⟨q1, q2, q3⟩ := h.kids c hc2
    exact ⟨q1, by rw [a4.old _ (by omega) q1 (by omega)]; exact q2, q3⟩
  · rcases Int.lt_or_le (Cj r) 0 with g | g
    · obtain ⟨t, t1, t2⟩ := a4.new r a b g (by omega)
      have : t = p := by omega
      subst this
      rcases t2 with t2 | ⟨t2, t3, t4⟩
      · exact absurd t2 hpq
      · rcases hpj with z | z <;> omega
    · rw [a4.old r a b g] at e
      exact h.only r a b e
  · rcases Int.lt_or_le (Cj r) 0 with g | g
    · exact h.free1 r a b g
    · rw [a4.old r a b g] at e; omega
  · rw [take_succ_get hj, hcv] at hc2
    rcases List.mem_append.1 hc2 with g | g
    · have hcm : c ∈ chsOf kw i br := List.mem_of_mem_take g
      have hcc : c ≠ c0 := fun e => hnotin (by rw [← e]; exact g)
      obtain ⟨q1, q2, q3⟩ := h.kids c hcm
      refine ⟨fun e => ?_, fun e => ?_⟩
      · have h0 := h.kids 0 (by rw [← e]; exact hcm)
        rw [Nat.add_zero] at h0
        rw [a4.base base h0.1 (.inr (by omega)) (by omega)]
        exact (h.done c g).1 e
      · exact Node.ext a4 (fun r hr e2 => by rw [e2] at hr; omega) k _ _ _ ((h.done c g).2 e) q1 (.inr (by omega)) (by omega)
    · have : c = c0 := by simpa using g
      subst this
      exact ⟨fun e => absurd e hc, fun _ => Node.mono (fun r hr => ⟨hr.1, hr.2.1, h.free1 r hr.1 hr.2.1 hr.2.2⟩) k _ _ _ a5⟩
  · have hd : (chsOf kw i br).drop j = (chsOf kw i br)[j] :: (chsOf kw i br).drop (j + 1) := List.drop_eq_getElem_cons hj
    have hcm : c ∈ chsOf kw i br := List.mem_of_mem_drop hc2
    have hcc : c ≠ c0 := fun e => hnotin2 (by rw [← e]; exact hc2)
    obtain ⟨q1, q2, q3⟩ := h.kids c hcm
    have hpe := h.pend c (by rw [hd]; exact List.mem_cons_of_mem _ hc2) r a b
    rcases Int.lt_or_le (Cj r) 0 with g | g
    · obtain ⟨t, t1, t2⟩ := a4.new r a b g (by omega)
      have : t = base + c := by omega
      subst this
      rcases t2 with t2 | ⟨t2, t3, t4⟩ <;> omega
    · rw [a4.old r a b g] at e
      exact hpe e
theorem Grow.fin {n p base k i : Nat} {B C C1 Bj Cj : Nat → Int} {kw : List ByteArray} {ids : List Int} {br U Uj : List Nat} (h : Grow n p base k i B C C1 kw ids br U (chsOf kw i br).length Bj Cj Uj) (hb : 1 ≤ base) (hx : ∀ x ∈ br, i ≤ (wd kw x).size) (hn : (chsOf kw i br).Nodup)
    (hc1 : ∀ r, 1 ≤ r → r < n → C1 r < 0 → C r < 0) : Added n p (k + 1) i B C kw ids br U Bj Cj := by
  have hcost := cost_all kw i br hx hn
  have hlen := h.len
  rw [List.take_length] at hlen
  refine ⟨Uj, h.inv, h.used, by omega, h.ext, base, h.bp, hb, fun c hc => ⟨fun hm hlt e => ?_, fun hm => ?_⟩⟩
  · obtain ⟨c2, d1, d2⟩ := h.only _ (by omega) hlt e
    exact hm (by rw [show c = c2 from by omega]; exact d1)
  · obtain ⟨q1, q2, q3⟩ := h.kids c hm
    have hd := h.done c (by rw [List.take_length]; exact hm)
    exact ⟨q1, q2, ⟨by omega, q1, q3⟩, fun e => by subst e; exact hd.1 rfl, fun e => Node.mono (fun r hr => ⟨hr.1, hr.2.1, hc1 r hr.1 hr.2.1 hr.2.2⟩) k _ _ _ (hd.2 e)⟩
end Go.Proofs.Ytddcjmdcpkmnjaa.Da
namespace Go.Proofs.Ytddcjmdcpkmnjaa.Da
theorem addCh_lt {cs : List Nat} {c : Nat} (h : cs.Pairwise (· < ·)) (hc : ∀ d ∈ cs, d ≤ c) : (addCh cs c).Pairwise (· < ·) := by
  unfold addCh
  split
  · exact h
  · rename_i hne
    rw [List.pairwise_append]
    refine ⟨h, by simp, fun d hd e he => ?_⟩
    rw [List.mem_singleton.1 he]
    have h1 := hc d hd
    rcases List.eq_nil_or_concat cs with h0 | ⟨ini, l, h0⟩
    · rw [h0] at hd; cases hd
    · have h0 : cs = ini ++ [l] := by simpa using h0
      subst h0
      have hl : l ≤ c := hc l (by simp)
      have hlc : l ≠ c := fun g => hne (by simp [g])
      rw [List.pairwise_append] at h
      rcases List.mem_append.1 hd with g | g
      · have := h.2.2 d g l (by simp); omega
      · rw [List.mem_singleton.1 g]; omega
theorem foldCh_lt (kw : List ByteArray) (i : Nat) : ∀ (br cs : List Nat), cs.Pairwise (· < ·) → (∀ c ∈ cs, ∀ x ∈ br, c ≤ chAt (wd kw x) i) → br.Pairwise (fun x y => chAt (wd kw x) i ≤ chAt (wd kw y) i) → (br.foldl (fun cs x => addCh cs (chAt (wd kw x) i)) cs).Pairwise (· < ·) := by
  intro br
  induction br with
  | nil => intro cs h _ _; exact h
  | cons x br ih =>
    intro cs h1 h2 h3
    rw [List.pairwise_cons] at h3
    refine ih _ (addCh_lt h1 (fun d hd => h2 d hd x (by simp))) (fun c hc y hy => ?_) h3.2
    rcases (mem_addCh _ _ _).1 hc with g | g
    · exact h2 c g y (by simp [hy])
    · rw [g]; exact h3.1 y hy
theorem chsOf_nodup (kw : List ByteArray) (i : Nat) {br : List Nat} (h : br.Pairwise (fun x y => chAt (wd kw x) i ≤ chAt (wd kw y) i)) : (chsOf kw i br).Nodup := by
  have := foldCh_lt kw i br [] List.Pairwise.nil (fun c hc => by cases hc) h
  exact this.imp (fun h => Nat.ne_of_lt h)
/-- The sign at a place of a list. -/
def chL (l : List UInt8) (i : Nat) : Nat := (l[i]?.map (·.toNat)).getD 0
theorem chL_le : ∀ (i : Nat) (a b : List UInt8), a ≤ b → a.take i = b.take i → i ≤ a.length → i ≤ b.length → chL a i ≤ chL b i := by
  intro i
  induction i with
  | zero =>
    intro a b h _ _ _
    cases a with
    | nil => simp [chL]
    | cons x a =>
      cases b with
      | nil => exact absurd h (by simp)
      | cons y b =>
        rw [List.cons_le_cons_iff] at h
        simp only [chL, List.getElem?_cons_zero, Option.map_some, Option.getD_some]
        rcases h with h | ⟨h, _⟩
        · have := UInt8.lt_iff_toNat_lt.1 h; omega
        · rw [h]; exact Nat.le_refl _
  | succ i ih =>
    intro a b h he ha hb
    cases a with
    | nil => simp at ha
    | cons x a =>
      cases b with
      | nil => simp at hb
      | cons y b =>
        rw [List.cons_le_cons_iff] at h
        simp only [List.take_succ_cons, List.cons.injEq] at he
        obtain ⟨rfl, he⟩ := he
        have h2 : a ≤ b := by
          rcases h with h | ⟨_, h⟩
          · exact absurd h (by simp)
          · exact h
        have := ih a b h2 he (by simpa using ha) (by simpa using hb)
        simpa [chL] using this
theorem chAt_chL (s : ByteArray) (i : Nat) : chAt s i = chL s.data.toList i := by
  unfold chAt chL
  by_cases h : i < s.size
  · have h2 : i < s.data.size := h
    rw [if_pos h, Array.getElem?_toList, Array.getElem?_eq_getElem h2]
    show (s.data[i]!).toNat = _
    rw [getElem!_pos s.data i h2]
    rfl
  · have h2 : ¬ i < s.data.size := h
    rw [if_neg h, Array.getElem?_toList, Array.getElem?_eq_none (by omega)]
    rfl
/-- u begins as s does, for t signs. -/
def pre (s : ByteArray) (t : Nat) (u : ByteArray) : Prop := t ≤ u.size ∧ ∀ i, i < t → u.get! i = s.get! i
instance (s : ByteArray) (t : Nat) (u : ByteArray) : Decidable (pre s t u) := by unfold pre; infer_instance
def brs (kw : List ByteArray) (s : ByteArray) (t : Nat) : List Nat := (List.range kw.length).filter (fun x => decide (pre s t (wd kw x)))
theorem brs_zero (kw : List ByteArray) (s : ByteArray) : brs kw s 0 = List.range kw.length := by
  unfold brs
  rw [List.filter_eq_self]
  intro x _
  exact decide_eq_true ⟨Nat.zero_le _, fun i h => by omega⟩
theorem pre_succ (s u : ByteArray) (t : Nat) (hz : chAt s t ≠ 0) : pre s (t + 1) u ↔ pre s t u ∧ chAt u t = chAt s t := by
  have hs : t < s.size := by unfold chAt at hz; split at hz; assumption; omega
  have h1 : chAt s t = (s.get! t).toNat := by unfold chAt; rw [if_pos hs]
  constructor
  · rintro ⟨a, b⟩
    refine ⟨⟨by omega, fun i hi => b i (by omega)⟩, ?_⟩
    unfold chAt
    rw [if_pos (by omega), if_pos hs, b t (by omega)]
  · rintro ⟨⟨a, b⟩, c⟩
    have hu : t < u.size := by
      rw [← c] at hz
      unfold chAt at hz; split at hz; assumption; omega
    refine ⟨by omega, fun i hi => ?_⟩
    rcases Nat.lt_or_ge i t with g | g
    · exact b i g
    · obtain rfl : i = t := by omega
      unfold chAt at c
      rw [if_pos hu, if_pos hs] at c
      exact UInt8.toNat_inj.1 c
theorem brs_succ (kw : List ByteArray) (s : ByteArray) (t : Nat) (hz : chAt s t ≠ 0) : brs kw s (t + 1) = sub kw t (brs kw s t) (chAt s t) := by
  unfold brs sub
  rw [List.filter_filter]
  apply List.filter_congr
  intro x _
  have h1 := pre_succ s (wd kw x) t hz
  rw [Bool.eq_iff_iff]
  simp only [decide_eq_true_eq, Bool.and_eq_true]
  rw [h1]
  exact ⟨fun h => ⟨h.2, h.1⟩, fun h => ⟨h.2, h.1⟩⟩
/-- Sorted words, each once. -/
def Srt (kw : List ByteArray) : Prop := kw.Pairwise (fun a b => a.data.toList ≤ b.data.toList)
theorem wd_get (kw : List ByteArray) {x : Nat} (h : x < kw.length) : wd kw x = kw[x] := by
  unfold wd
  rw [List.getD_eq_getElem?_getD, List.getElem?_eq_getElem h]; rfl
theorem take_of_agree (a b : ByteArray) (i : Nat) (ha : i ≤ a.size) (hb : i ≤ b.size) (h : ∀ j, j < i → a.get! j = b.get! j) : a.data.toList.take i = b.data.toList.take i := by
  apply List.ext_getElem?
  intro j
  rw [List.getElem?_take, List.getElem?_take]
  by_cases hj : j < i
  · rw [if_pos hj, if_pos hj, Array.getElem?_toList, Array.getElem?_toList]
    have h1 : j < a.data.size := by have : a.size = a.data.size := rfl; omega
    have h2 : j < b.data.size := by have : b.size = b.data.size := rfl; omega
    rw [Array.getElem?_eq_getElem h1, Array.getElem?_eq_getElem h2]
    have := h j hj
    have e1 : a.get! j = a.data[j] := by show a.data[j]! = _; rw [getElem!_pos a.data j h1]
    have e2 : b.get! j = b.data[j] := by show b.data[j]! = _; rw [getElem!_pos b.data j h2]
    rw [← e1, ← e2, this]
  · rw [if_neg hj, if_neg hj]
/-- Words that agree ahead of place i: their signs there rise. -/
theorem sorted_at (kw : List ByteArray) (hs : Srt kw) (i : Nat) (br : List Nat) (hb : br.Pairwise (· < ·)) (hx : ∀ x ∈ br, x < kw.length ∧ i ≤ (wd kw x).size) (hag : ∀ x ∈ br, ∀ y ∈ br, ∀ j, j < i → (wd kw x).get! j = (wd kw y).get! j) : br.Pairwise (fun x y => chAt (wd kw x) i ≤ chAt (wd kw y) i) := by
  refine List.Pairwise.imp_of_mem (fun {x y} mx my hlt => ?_) hb
  rw [chAt_chL, chAt_chL]
  have h1 := (hx x mx).1
  have h2 := (hx y my).1
  have hle : (wd kw x).data.toList ≤ (wd kw y).data.toList := by
    rw [wd_get kw h1, wd_get kw h2]
    exact List.pairwise_iff_getElem.1 hs x y h1 h2 hlt
  exact chL_le i _ _ hle (take_of_agree _ _ i (hx x mx).2 (hx y my).2 (hag x mx y my)) (by simpa using (hx x mx).2) (by simpa using (hx y my).2)
theorem fit_of (kw : List ByteArray) (hs : Srt kw) (M : Nat) (hM : ∀ s ∈ kw, s.size ≤ M) (hnz : ∀ s ∈ kw, ∀ j, j < s.size → (s.get! j).toNat ≠ 0) : ∀ (k i : Nat) (br : List Nat), br ≠ [] → br.Pairwise (· < ·) → (∀ x ∈ br, x < kw.length ∧ i ≤ (wd kw x).size) → (∀ x ∈ br, ∀ y ∈ br, ∀ j, j < i → (wd kw x).get! j = (wd kw y).get! j) → M + 1 ≤ k + i → Fit kw k i br := by
  intro k
  induction k with
  | zero =>
    intro i br h1 h2 h3 h4 h5
    obtain ⟨x, hx⟩ := List.exists_mem_of_ne_nil br h1
    have := h3 x hx
    have h6 := hM _ (show wd kw x ∈ kw by rw [wd_get kw this.1]; exact List.getElem_mem _)
    omega
  | succ k ih =>
    intro i br h1 h2 h3 h4 h5
    have hp := sorted_at kw hs i br h2 h3 h4
    refine ⟨h1, h3, chsOf_nodup kw i hp, fun h0 => ?_, fun c hc hc0 => ?_⟩
    · obtain ⟨x, hx, hx0⟩ := (mem_chsOf kw i br 0).1 h0
      cases br with
      | nil => exact absurd rfl h1
      | cons y r =>
        refine ⟨y, r, rfl, ?_⟩
        rcases List.mem_cons.1 hx with e | e
        · rw [← e]; exact hx0
        · have := (List.pairwise_cons.1 hp).1 x e
          omega
    · have hch : ∀ x ∈ sub kw i br c, x ∈ br ∧ chAt (wd kw x) i = c := fun x hx => ⟨(List.mem_filter.1 hx).1, of_decide_eq_true (List.mem_filter.1 hx).2⟩
      have hsz : ∀ x ∈ sub kw i br c, i < (wd kw x).size := fun x hx => by
        have := (hch x hx).2
        unfold chAt at this
        split at this
        · assumption
        · omega
      refine ih (i + 1) (sub kw i br c) ?_ (h2.sublist List.filter_sublist) (fun x hx => ⟨(h3 x (hch x hx).1).1, hsz x hx⟩) (fun x hx y hy j hj => ?_) (by omega)
      · intro e
        obtain ⟨x, x1, x2⟩ := (mem_chsOf kw i br c).1 hc
        have : x ∈ sub kw i br c := List.mem_filter.2 ⟨x1, decide_eq_true x2⟩
        rw [e] at this; cases this
      · rcases Nat.lt_or_ge j i with g | g
        · exact h4 x (hch x hx).1 y (hch y hy).1 j g
        · obtain rfl : j = i := by omega
          have e1 := (hch x hx).2
          have e2 := (hch y hy).2
          unfold chAt at e1 e2
          rw [if_pos (hsz x hx)] at e1
          rw [if_pos (hsz y hy)] at e2
          exact UInt8.toNat_inj.1 (by omega)
end Go.Proofs.Ytddcjmdcpkmnjaa.Da
namespace Go.Proofs.Ytddcjmdcpkmnjaa.Da
instance : LawfulBEq ByteArray where
  eq_of_beq h := (Go.MapKept.bytes_beq _ _).1 h
  rfl := (Go.MapKept.bytes_beq _ _).2 rfl
/-- A word's number: that of its place. -/
def idOf (kw : List ByteArray) (ids : List Int) (u : ByteArray) : Int := ids.getD (kw.idxOf u) 0
/-- The first m cells hold the words, with their numbers. -/
structure TrieOk (kw : List ByteArray) (ids : List Int) (m : Nat) (B C : Nat → Int) : Prop where
  ex : ∃ (n : Nat) (F : Nat → Prop) (k : Nat) (kw' : List ByteArray) (ids' : List Int), kw'.Perm kw ∧ m ≤ n ∧ n ≤ 60000 ∧ (∀ r, m ≤ r → r < n → C r < 0) ∧ Node n F B C kw' ids' k 0 0 (List.range kw'.length) ∧ Fit kw' k 0 (List.range kw'.length) ∧ kw'.Nodup ∧ (∀ x, x < kw'.length → ids'.getD x 0 = idOf kw ids (wd kw' x)) ∧ (∀ x ∈ ids, 0 ≤ x ∧ x ≤ 1100000) ∧ ids.length = kw.length ∧ 0 < m ∧ (∀ u ∈ kw, ∀ j, j < u.size → (u.get! j).toNat ≠ 0)
  cb : ∀ r, r < m → -60000 ≤ C r ∧ C r ≤ 60000
/-- Cell p stands for the first t signs of s. -/
structure On (kw : List ByteArray) (ids : List Int) (m : Nat) (B C : Nat → Int) (s : ByteArray) (t p : Nat) : Prop where
  ex : ∃ (n : Nat) (F : Nat → Prop) (k : Nat) (kw' : List ByteArray) (ids' : List Int), kw'.Perm kw ∧ m ≤ n ∧ n ≤ 60000 ∧ (∀ r, m ≤ r → r < n → C r < 0) ∧ Node n F B C kw' ids' k p t (brs kw' s t) ∧ Fit kw' k t (brs kw' s t) ∧ kw'.Nodup ∧ (∀ x, x < kw'.length → ids'.getD x 0 = idOf kw ids (wd kw' x)) ∧ p < m ∧ (∀ x ∈ ids, 0 ≤ x ∧ x ≤ 1100000) ∧ ids.length = kw.length ∧ (∀ u ∈ kw, ∀ j, j < u.size → (u.get! j).toNat ≠ 0)
theorem On.start {kw : List ByteArray} {ids : List Int} {m : Nat} {B C : Nat → Int} (h : TrieOk kw ids m B C) (s : ByteArray) : On kw ids m B C s 0 0 := by
  obtain ⟨n, F, k, kw', ids', h1, h2, h3, h4, h5, h6, h7, h8, h9, h10, h11, h12⟩ := h.ex
  exact ⟨n, F, k, kw', ids', h1, h2, h3, h4, by rw [brs_zero]; exact h5, by rw [brs_zero]; exact h6, h7, h8, h11, h9, h10, h12⟩
theorem On.lt {kw : List ByteArray} {ids : List Int} {m : Nat} {B C : Nat → Int} {s : ByteArray} {t p : Nat} (h : On kw ids m B C s t p) : p < m := by
  obtain ⟨n, F, k, kw', ids', h1, h2, h3, h4, h5, h6, h7, h8, h9, h10⟩ := h.ex
  exact h9
theorem mem_brs {kw : List ByteArray} {s : ByteArray} {t x : Nat} : x ∈ brs kw s t ↔ x < kw.length ∧ pre s t (wd kw x) := by
  unfold brs
  rw [List.mem_filter, List.mem_range, decide_eq_true_eq]
/-- One sign further. -/
theorem On.step {kw : List ByteArray} {ids : List Int} {m : Nat} {B C : Nat → Int} {s : ByteArray} {t p : Nat} (h : On kw ids m B C s t p) (hz : chAt s t ≠ 0) :
    ∃ base : Nat, B p = (base : Int) ∧ 1 ≤ base ∧ base < 60000 ∧
      ((∃ u ∈ kw, pre s (t + 1) u) → base + chAt s t < m ∧ C (base + chAt s t) = (p : Int) ∧ On kw ids m B C s (t + 1) (base + chAt s t)) ∧
      ((¬ ∃ u ∈ kw, pre s (t + 1) u) → ¬ (base + chAt s t < m ∧ C (base + chAt s t) = (p : Int))) := by
  obtain ⟨n, F, k, kw', ids', h1, h2, h3, h4, h5, h6, h7, h8, h9, h10, h11, h12⟩ := h.ex
  have hex : (∃ u ∈ kw, pre s (t + 1) u) ↔ chAt s t ∈ chsOf kw' t (brs kw' s t) := by
    rw [mem_chsOf]
    constructor
    · rintro ⟨u, hu, hp⟩
      have hu' := h1.mem_iff.2 hu
      obtain ⟨x, hx, hxu⟩ := List.getElem_of_mem hu'
      have hw : wd kw' x = u := by rw [wd_get kw' hx, hxu]
      have := (pre_succ s u t hz).1 hp
      exact ⟨x, mem_brs.2 ⟨hx, by rw [hw]; exact this.1⟩, by rw [hw]; exact this.2⟩
    · rintro ⟨x, hx, hc⟩
      obtain ⟨hx1, hx2⟩ := mem_brs.1 hx
      refine ⟨wd kw' x, h1.mem_iff.1 ?_, (pre_succ s _ t hz).2 ⟨hx2, hc⟩⟩
      rw [wd_get kw' hx1]; exact List.getElem_mem _
  cases k with
  | zero => exact h5.elim
  | succ k =>
    obtain ⟨base, b1, b2, b3⟩ := h5
    have hb : base < 60000 := by
      obtain ⟨x, hx⟩ := List.exists_mem_of_ne_nil _ h6.1
      have := ((b3 _ (chAt_le (wd kw' x) t)).2 ((mem_chsOf _ _ _ _).2 ⟨x, hx, rfl⟩)).1
      omega
    refine ⟨base, b1, b2, hb, fun hu => ?_, fun hu => ?_⟩
    · have hm := hex.1 hu
      obtain ⟨a1, a2, a3, a4, a5⟩ := (b3 _ (chAt_le s t)).2 hm
      have hlt : base + chAt s t < m := by
        rcases Nat.lt_or_ge (base + chAt s t) m with g | g
        · exact g
        · have := h4 _ g a1; omega
      refine ⟨hlt, a2, n, F, k, kw', ids', h1, h2, h3, h4, ?_, ?_, h7, h8, hlt, h10, h11, h12⟩
      · rw [brs_succ kw' s t hz]; exact a5 hz
      · rw [brs_succ kw' s t hz]; exact h6.2.2.2.2 _ hm hz
    · rintro ⟨g1, g2⟩
      exact (b3 _ (chAt_le s t)).1 (fun hm => hu (hex.2 hm)) (by omega) g2
theorem ext_bytes {a b : ByteArray} (h1 : a.size = b.size) (h2 : ∀ i, i < a.size → a.get! i = b.get! i) : a = b := by
  have : a.data = b.data := by
    apply Array.ext h1
    intro i hi hj
    have := h2 i hi
    have e1 : a.get! i = a.data[i] := by show a.data[i]! = _; rw [getElem!_pos a.data i hi]
    have e2 : b.get! i = b.data[i] := by show b.data[i]! = _; rw [getElem!_pos b.data i hj]
    rw [← e1, ← e2, this]
  cases a; cases b; simpa using this
theorem extract_get (s : ByteArray) (t i : Nat) (h : i < t) (ht : t ≤ s.size) : (s.extract 0 t).get! i = s.get! i := by
  show (s.extract 0 t).data[i]! = s.data[i]!
  rw [ByteArray.data_extract]
  have h1 : i < s.data.size := by have : s.size = s.data.size := rfl; omega
  have h2 : i < (s.data.extract 0 t).size := by rw [Array.size_extract]; have : s.size = s.data.size := rfl; omega
  rw [getElem!_pos _ i h2, getElem!_pos _ i h1, Array.getElem_extract]
  congr 1
  omega
theorem pre_whole (s : ByteArray) (t : Nat) (ht : t ≤ s.size) (u : ByteArray) : (pre s t u ∧ u.size = t) ↔ u = s.extract 0 t := by
  have hsz : (s.extract 0 t).size = t := by rw [ByteArray.size_extract]; omega
  constructor
  · rintro ⟨⟨h1, h2⟩, h3⟩
    refine ext_bytes (by rw [hsz, h3]) (fun i hi => ?_)
    rw [extract_get s t i (by omega) ht]
    exact h2 i (by omega)
  · rintro rfl
    exact ⟨⟨by omega, fun i hi => extract_get s t i hi ht⟩, hsz⟩
/-- Whether the first t signs are a word. -/
theorem On.term {kw : List ByteArray} {ids : List Int} {m : Nat} {B C : Nat → Int} {s : ByteArray} {t p : Nat} (h : On kw ids m B C s t p) (ht : t ≤ s.size) :
    ∃ base : Nat, B p = (base : Int) ∧ 1 ≤ base ∧ base < 60000 ∧
      (s.extract 0 t ∈ kw → base < m ∧ C base = (p : Int) ∧ B base = -(idOf kw ids (s.extract 0 t)) ∧ 0 ≤ idOf kw ids (s.extract 0 t) ∧ idOf kw ids (s.extract 0 t) ≤ 1100000) ∧
      (s.extract 0 t ∉ kw → ¬ (base < m ∧ C base = (p : Int))) := by
  obtain ⟨n, F, k, kw', ids', h1, h2, h3, h4, h5, h6, h7, h8, h9, h10, h11, h12⟩ := h.ex
  have hzero : ∀ x, x < kw'.length → pre s t (wd kw' x) → chAt (wd kw' x) t = 0 → wd kw' x = s.extract 0 t := by
    intro x hx1 hx2 hc
    refine (pre_whole s t ht _).1 ⟨hx2, ?_⟩
    have hm : wd kw' x ∈ kw := h1.mem_iff.1 (by rw [wd_get kw' hx1]; exact List.getElem_mem _)
    unfold chAt at hc
    split at hc
    · exact absurd hc (h12 _ hm t (by assumption))
    · have := hx2.1; omega
  have hex : s.extract 0 t ∈ kw ↔ 0 ∈ chsOf kw' t (brs kw' s t) := by
    rw [mem_chsOf]
    constructor
    · intro hu
      have hu' := h1.mem_iff.2 hu
      obtain ⟨x, hx, hxu⟩ := List.getElem_of_mem hu'
      have hw : wd kw' x = s.extract 0 t := by rw [wd_get kw' hx, hxu]
      obtain ⟨q1, q2⟩ := (pre_whole s t ht _).2 hw
      refine ⟨x, mem_brs.2 ⟨hx, q1⟩, ?_⟩
      unfold chAt; rw [if_neg (by omega)]
    · rintro ⟨x, hx, hc⟩
      obtain ⟨hx1, hx2⟩ := mem_brs.1 hx
      rw [← hzero x hx1 hx2 hc]
      exact h1.mem_iff.1 (by rw [wd_get kw' hx1]; exact List.getElem_mem _)
  cases k with
  | zero => exact h5.elim
  | succ k =>
    obtain ⟨base, b1, b2, b3⟩ := h5
    have hb : base < 60000 := by
      obtain ⟨x, hx⟩ := List.exists_mem_of_ne_nil _ h6.1
      have := ((b3 _ (chAt_le (wd kw' x) t)).2 ((mem_chsOf _ _ _ _).2 ⟨x, hx, rfl⟩)).1
      omega
    refine ⟨base, b1, b2, hb, fun hu => ?_, fun hu => ?_⟩
    · have hm := hex.1 hu
      obtain ⟨a1, a2, a3, a4, a5⟩ := (b3 0 (by omega)).2 hm
      rw [Nat.add_zero] at a1 a2 a4
      have hlt : base < m := by
        rcases Nat.lt_or_ge base m with g | g
        · exact g
        · have := h4 _ g a1; omega
      obtain ⟨x, r, e1, e2⟩ := h6.2.2.2.1 hm
      have hxm : x ∈ brs kw' s t := by rw [e1]; simp
      obtain ⟨hx1, hx2⟩ := mem_brs.1 hxm
      have hw := hzero x hx1 hx2 e2
      have hid := h8 x hx1
      rw [hw] at hid
      have hB := a4 rfl
      rw [e1, List.headD_cons, hid] at hB
      have hbd : 0 ≤ idOf kw ids (s.extract 0 t) ∧ idOf kw ids (s.extract 0 t) ≤ 1100000 := by
        unfold idOf
        rw [List.getD_eq_getElem?_getD]
        cases hg : ids[kw.idxOf (s.extract 0 t)]? with
        | none => simp
        | some y => exact h10 y (List.mem_of_getElem? hg)
      exact ⟨hlt, a2, hB, hbd.1, hbd.2⟩
    · rintro ⟨g1, g2⟩
      exact (b3 0 (by omega)).1 (fun hm => hu (hex.2 hm)) (by omega) g2
end Go.Proofs.Ytddcjmdcpkmnjaa.Da
