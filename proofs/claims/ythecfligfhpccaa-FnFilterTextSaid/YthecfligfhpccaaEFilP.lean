/- Filters of features as a tree in a list: nodes by their places, each with its edges (a feature, and the place of the node behind it). Plain. -/
set_option linter.unusedVariables false
namespace Go.Proofs.Ythecfligfhpccaa.Fil
abbrev Nd := List (ByteArray × Nat)
def ANY : ByteArray := ⟨#[0]⟩
def hit (x : ByteArray) (e : ByteArray × Nat) : Bool := decide (e.1 = ANY) || decide (e.1 = x)
def node (G : List Nd) (n : Nat) : Nd := G.getD n []
/-- The node behind the first edge that fits. -/
def nxt (es : Nd) (x : ByteArray) : Option Nat := (es.find? (hit x)).map (·.2)
def matchA (G : List Nd) : Nat → List ByteArray → Bool
  | _, [] => false
  | n, x :: xs => match nxt (node G n) x with
    | none => false
    | some c => if (node G c).isEmpty then true else matchA G c xs
def grow (G : List Nd) (n : Nat) (v : ByteArray) : List Nd := G.set n (node G n ++ [(v, G.length)]) ++ [[]]
def addA : List Nd → Nat → List ByteArray → List Nd
  | G, _, [] => G
  | G, n, v :: rest => match nxt (node G n) v with
    | none => addA (grow G n v) G.length rest
    | some c => if (node G c).isEmpty then G else if rest.isEmpty then G.set c [] else addA G c rest
def buildA (fs : List (List ByteArray)) : List Nd := fs.foldl (fun G f => addA G 0 f) [[]]

theorem node_set_same {G : List Nd} {n : Nat} {es : Nd} (h : n < G.length) : node (G.set n es) n = es := by simp [node, h]
theorem node_set_ne {G : List Nd} {n m : Nat} {es : Nd} (h : n ≠ m) : node (G.set n es) m = node G m := by simp [node, List.getElem?_set_ne h]
theorem length_grow (G : List Nd) (n : Nat) (v : ByteArray) : (grow G n v).length = G.length + 1 := by simp [grow]
theorem node_grow_same {G : List Nd} {n : Nat} {v : ByteArray} (h : n < G.length) : node (grow G n v) n = node G n ++ [(v, G.length)] := by
  unfold grow node
  rw [List.getD_eq_getElem?_getD, List.getElem?_append_left (by simpa using h)]
  simp [h]
theorem node_grow_new {G : List Nd} {n : Nat} {v : ByteArray} : node (grow G n v) G.length = [] := by
  unfold grow node
  rw [List.getD_eq_getElem?_getD, List.getElem?_append_right (by simp)]
  simp
theorem node_grow_ne {G : List Nd} {n m : Nat} {v : ByteArray} (h : n ≠ m) (hm : m < G.length) : node (grow G n v) m = node G m := by
  unfold grow node
  rw [List.getD_eq_getElem?_getD, List.getElem?_append_left (by simpa using hm), List.getElem?_set_ne h, List.getD_eq_getElem?_getD]

/-! ### One filter alone: a chain -/
def wild : List ByteArray → List ByteArray → Bool
  | [], _ => true
  | _ :: _, [] => false
  | v :: f, x :: xs => (decide (v = ANY) || decide (v = x)) && wild f xs
theorem chain (f : List ByteArray) : ∀ (G : List Nd) (n : Nat), n < G.length → node G n = [] →
    G.length ≤ (addA G n f).length ∧ (∀ m, m < G.length → m ≠ n → node (addA G n f) m = node G m) ∧ (f ≠ [] → node (addA G n f) n ≠ []) ∧ ∀ fs, f ≠ [] → matchA (addA G n f) n fs = wild f fs := by
  induction f with
  | nil => intro G n hn h0; exact ⟨Nat.le_refl _, fun _ _ _ => rfl, fun h => absurd rfl h, fun fs h => absurd rfl h⟩
  | cons v rest ih =>
    intro G n hn h0
    have hnx : nxt (node G n) v = none := by rw [h0]; rfl
    have he : addA G n (v :: rest) = addA (grow G n v) G.length rest := by simp only [addA, hnx]
    rw [he]
    obtain ⟨h1, h2, h3, h4⟩ := ih (grow G n v) G.length (by rw [length_grow]; omega) node_grow_new
    rw [length_grow] at h1
    have hnn : node (addA (grow G n v) G.length rest) n = [(v, G.length)] := by
      rw [h2 n (by rw [length_grow]; omega) (by omega), node_grow_same hn, h0]; rfl
    refine ⟨by omega, fun m hm hne => ?_, fun _ => by rw [hnn]; simp, fun fs _ => ?_⟩
    · rw [h2 m (by rw [length_grow]; omega) (by omega), node_grow_ne (fun e => hne e.symm) hm]
    · cases fs with
      | nil => rfl
      | cons x xs =>
        simp only [matchA, wild, hnn]
        by_cases hv : hit x (v, G.length) = true
        · have e1 : nxt [(v, G.length)] x = some G.length := by simp [nxt, List.find?, hv]
          have e2 : (decide (v = ANY) || decide (v = x)) = true := hv
          rw [e1, e2]
          simp only [Bool.true_and]
          cases rest with
          | nil =>
            have : node (addA (grow G n v) G.length []) G.length = [] := node_grow_new
            rw [this]
            simp [wild]
          | cons w r =>
            have h5 := h3 (by simp)
            rw [if_neg (by simpa using h5)]
            exact h4 xs (by simp)
        · have hv' : hit x (v, G.length) = false := by simpa using hv
          have e1 : nxt [(v, G.length)] x = none := by simp [nxt, List.find?, hv']
          have e2 : (decide (v = ANY) || decide (v = x)) = false := hv'
          rw [e1, e2]
          rfl
theorem one (f fs : List ByteArray) (h : f ≠ []) : matchA (buildA [f]) 0 fs = wild f fs := (chain f [[]] 0 (by simp) rfl).2.2.2 fs h

def pre : List ByteArray → List ByteArray → Bool
  | [], _ => true
  | _ :: _, [] => false
  | v :: f, x :: xs => decide (v = x) && pre f xs
/-! ### Several filters without the sign for any -/
/-- Each node has a path; an edge leads one further; no edge's feature is the sign for any, and those of a node differ. -/
structure Inv (G : List Nd) (p : List (List ByteArray)) : Prop where
  len : p.length = G.length
  edge : ∀ n v c, (v, c) ∈ node G n → n < G.length ∧ c < G.length ∧ p.getD c [] = p.getD n [] ++ [v] ∧ v ≠ ANY
  uniq : ∀ n, ((node G n).map (·.1)).Nodup
theorem nxt_mem {es : Nd} {x : ByteArray} {c : Nat} (h : nxt es x = some c) : ∃ v, (v, c) ∈ es ∧ (v = ANY ∨ v = x) := by
  unfold nxt at h
  obtain ⟨e, he, rfl⟩ := Option.map_eq_some_iff.1 h
  refine ⟨e.1, List.mem_of_find?_eq_some he, ?_⟩
  have := List.find?_some he
  simpa [hit] using this
theorem nxt_none {es : Nd} {x : ByteArray} (h : nxt es x = none) : ∀ e ∈ es, e.1 ≠ ANY ∧ e.1 ≠ x := by
  unfold nxt at h
  have h1 := Option.map_eq_none_iff.1 h
  intro e he
  have := List.find?_eq_none.1 h1 e he
  simpa [hit] using this
theorem nxt_of {es : Nd} {x : ByteArray} {c : Nat} (hu : (es.map (·.1)).Nodup) (hn : ∀ e ∈ es, e.1 ≠ ANY) (h : (x, c) ∈ es) : nxt es x = some c := by
  induction es with
  | nil => cases h
  | cons e es ih =>
    unfold nxt
    rw [List.find?_cons]
    by_cases hx : e.1 = x
    · have h1 : hit x e = true := by simp [hit, hx]
      rw [h1]
      rcases List.mem_cons.1 h with h | h
      · rw [← h]; rfl
      · exfalso
        have : x ∈ es.map (·.1) := List.mem_map.2 ⟨(x, c), h, rfl⟩
        rw [List.map_cons, List.nodup_cons] at hu
        exact hu.1 (by rw [hx]; exact this)
    · have h1 : hit x e = false := by simp [hit, hx, hn e (by simp)]
      rw [h1]
      rcases List.mem_cons.1 h with h | h
      · rw [← h] at hx; exact absurd rfl hx
      · rw [List.map_cons, List.nodup_cons] at hu
        exact ih hu.2 (fun e he => hn e (List.mem_cons_of_mem _ he)) h
/-- What is matched hangs on the nodes behind alone. -/
theorem match_congr {G G' : List Nd} {p : List (List ByteArray)} (hI : Inv G p) (fs : List ByteArray) : ∀ n, (∀ m, m < G.length → p.getD n [] <+: p.getD m [] → node G' m = node G m) → n < G.length → matchA G' n fs = matchA G n fs := by
  induction fs with
  | nil => intro n h hn; rfl
  | cons x xs ih =>
    intro n h hn
    simp only [matchA, h n hn List.prefix_rfl]
    cases hc : nxt (node G n) x with
    | none => rfl
    | some c =>
      obtain ⟨v, hv, _⟩ := nxt_mem hc
      obtain ⟨_, hcl, hp, _⟩ := hI.edge n v c hv
      have hsub : ∀ m, m < G.length → p.getD c [] <+: p.getD m [] → node G' m = node G m := fun m hm hpm => h m hm ((by rw [hp]; exact List.prefix_append _ _ : p.getD n [] <+: p.getD c []).trans hpm)
      simp only [hsub c hcl List.prefix_rfl]
      rw [ih c hsub hcl]
theorem apart {a v : List ByteArray} {x y : ByteArray} (h1 : a ++ [x] <+: v) (h2 : a ++ [y] <+: v) : x = y := by
  obtain ⟨s, rfl⟩ := h1
  obtain ⟨t, ht⟩ := h2
  simp only [List.append_assoc, List.singleton_append] at ht
  have := List.append_cancel_left ht
  injection this with h _
  exact h.symm
theorem inv_grow {G : List Nd} {p : List (List ByteArray)} (hI : Inv G p) {n : Nat} {v : ByteArray} (hn : n < G.length) (hv : v ≠ ANY) (h0 : nxt (node G n) v = none) : Inv (grow G n v) (p ++ [p.getD n [] ++ [v]]) := by
  have hp : ∀ m, m < G.length → (p ++ [p.getD n [] ++ [v]]).getD m [] = p.getD m [] := fun m hm => by
    rw [List.getD_eq_getElem?_getD, List.getElem?_append_left (by rw [hI.len]; exact hm), List.getD_eq_getElem?_getD]
  have hpc : (p ++ [p.getD n [] ++ [v]]).getD G.length [] = p.getD n [] ++ [v] := by
    rw [List.getD_eq_getElem?_getD, List.getElem?_append_right (by rw [hI.len]; exact Nat.le_refl _), hI.len]
    simp
  have hbig : ∀ k, G.length ≤ k → node (grow G n v) k = [] := fun k hk => by
    rcases Nat.lt_or_ge G.length k with h | h
    · unfold node
      rw [List.getD_eq_getElem?_getD, List.getElem?_eq_none (by rw [length_grow]; omega)]
      rfl
    · obtain rfl : k = G.length := by omega
      exact node_grow_new
  refine ⟨by rw [List.length_append, hI.len, length_grow]; rfl, fun k w c hw => ?_, fun k => ?_⟩
  · rcases Nat.lt_or_ge k G.length with hk | hk
    · rw [length_grow]
      by_cases e : n = k
      · subst e
        rw [node_grow_same hn] at hw
        rcases List.mem_append.1 hw with hw | hw
        · obtain ⟨h1, h2, h3, h4⟩ := hI.edge n w c hw
          exact ⟨by omega, by omega, by rw [hp c h2, hp n hn]; exact h3, h4⟩
        · have := List.mem_singleton.1 hw
          injection this with e1 e2
          subst e1 e2
          exact ⟨by omega, by omega, by rw [hpc, hp n hn], hv⟩
      · rw [node_grow_ne e hk] at hw
        obtain ⟨h1, h2, h3, h4⟩ := hI.edge k w c hw
        exact ⟨by omega, by omega, by rw [hp c h2, hp k hk]; exact h3, h4⟩
    · rw [hbig k hk] at hw
      cases hw
  · rcases Nat.lt_or_ge k G.length with hk | hk
    · by_cases e : n = k
      · subst e
        rw [node_grow_same hn, List.map_append, List.nodup_append]
        refine ⟨hI.uniq n, by simp, fun a ha b hb => ?_⟩
        obtain ⟨e1, he1, rfl⟩ := List.mem_map.1 ha
        have : b = v := by simpa using hb
        rw [this]
        exact (nxt_none h0 e1 he1).2
      · rw [node_grow_ne e hk]
        exact hI.uniq k
    · rw [hbig k hk]
      simp
theorem no_pre {a : List ByteArray} {v : ByteArray} : ¬ (a ++ [v] <+: a) := fun h => by
  have := h.length_le
  simp only [List.length_append, List.length_singleton] at this
  omega
theorem add_inv (f : List ByteArray) : ∀ (G : List Nd) (p : List (List ByteArray)) (n : Nat), Inv G p → n < G.length → (∀ v ∈ f, v ≠ ANY) →
    ∃ p', Inv (addA G n f) p' ∧ p <+: p' ∧ G.length ≤ (addA G n f).length ∧ (∀ m, m < G.length → ¬ (p.getD n [] <+: p.getD m []) → node (addA G n f) m = node G m) ∧ (f ≠ [] → node (addA G n f) n ≠ []) ∧
      ∀ fs, f ≠ [] → matchA (addA G n f) n fs = (matchA G n fs || pre f fs) := by
  induction f with
  | nil => intro G p n hI hn _; exact ⟨p, hI, List.prefix_rfl, Nat.le_refl _, fun _ _ _ => rfl, fun h => absurd rfl h, fun _ h => absurd rfl h⟩
  | cons v rest ih =>
    intro G p n hI hn hA
    have hv := hA v (by simp)
    have hA' : ∀ w ∈ rest, w ≠ ANY := fun w hw => hA w (List.mem_cons_of_mem _ hw)
    have hne : ∀ e ∈ node G n, e.1 ≠ ANY := fun e he => (hI.edge n e.1 e.2 he).2.2.2
    cases h0 : nxt (node G n) v with
    | none =>
      have he : addA G n (v :: rest) = addA (grow G n v) G.length rest := by simp only [addA, h0]
      rw [he]
      have hp : ∀ m, m < G.length → (p ++ [p.getD n [] ++ [v]]).getD m [] = p.getD m [] := fun m hm => by
        rw [List.getD_eq_getElem?_getD, List.getElem?_append_left (by rw [hI.len]; exact hm), List.getD_eq_getElem?_getD]
      have hpc : (p ++ [p.getD n [] ++ [v]]).getD G.length [] = p.getD n [] ++ [v] := by
        rw [List.getD_eq_getElem?_getD, List.getElem?_append_right (by rw [hI.len]; exact Nat.le_refl _), hI.len]
        simp
      obtain ⟨p', i1, i2, i3, i4, i5, i6⟩ := ih (grow G n v) _ G.length (inv_grow hI hn hv h0) (by rw [length_grow]; omega) hA'
      rw [length_grow] at i3 i4
      rw [hpc] at i4
      have hfr : ∀ m, m < G.length → ¬ (p.getD n [] ++ [v] <+: p.getD m []) → m ≠ n → node (addA (grow G n v) G.length rest) m = node G m := fun m hm h1 h2 => by
        rw [i4 m (by omega) (by rw [hp m hm]; exact h1), node_grow_ne (fun e => h2 e.symm) hm]
      have hnn : node (addA (grow G n v) G.length rest) n = node G n ++ [(v, G.length)] := by
        rw [i4 n (by omega) (by rw [hp n hn]; exact no_pre), node_grow_same hn]
      refine ⟨p', i1, (List.prefix_append _ _).trans i2, by omega, fun m hm h1 => ?_, fun _ => by rw [hnn]; simp, fun fs _ => ?_⟩
      · refine hfr m hm (fun h => h1 ((List.prefix_append _ _).trans h)) ?_
        rintro rfl
        exact h1 List.prefix_rfl
      · cases fs with
        | nil => rfl
        | cons x xs =>
          simp only [matchA, hnn]
          cases h1 : nxt (node G n) x with
          | some c2 =>
            have e1 : nxt (node G n ++ [(v, G.length)]) x = some c2 := by
              unfold nxt at h1 ⊢
              obtain ⟨e, he, hc⟩ := Option.map_eq_some_iff.1 h1
              rw [List.find?_append, he]
              exact congrArg some hc
            obtain ⟨w, hw, hwx⟩ := nxt_mem h1
            have hwx : w = x := hwx.resolve_left (hne _ hw)
            subst hwx
            have hwv : w ≠ v := (nxt_none h0 _ hw).2
            obtain ⟨_, hcl, hpc2, _⟩ := hI.edge n w c2 hw
            have hsub : ∀ m, m < G.length → p.getD c2 [] <+: p.getD m [] → node (addA (grow G n v) G.length rest) m = node G m := fun m hm hpm => by
              rw [hpc2] at hpm
              exact hfr m hm (fun h => hwv (apart hpm h)) (by rintro rfl; exact no_pre hpm)
            rw [e1]
            simp only [hsub c2 hcl List.prefix_rfl]
            rw [match_congr hI xs c2 hsub hcl]
            have hb : decide (v = w) = false := decide_eq_false (fun e => hwv e.symm)
            simp [pre, hb]
          | none =>
            by_cases hx : v = x
            · subst hx
              have e1 : nxt (node G n ++ [(v, G.length)]) v = some G.length := by
                unfold nxt at h1 ⊢
                rw [List.find?_append, Option.map_eq_none_iff.1 h1]
                simp [List.find?, hit]
              rw [e1]
              simp only [Bool.false_or]
              cases rest with
              | nil =>
                have : node (addA (grow G n v) G.length []) G.length = [] := node_grow_new
                rw [this]
                simp [pre]
              | cons u r =>
                have h5 := i5 (by simp)
                rw [if_neg (by simpa using h5), i6 xs (by simp)]
                have h6 : matchA (grow G n v) G.length xs = false := by
                  cases xs with
                  | nil => rfl
                  | cons y ys => simp only [matchA, node_grow_new]; rfl
                rw [h6]
                simp [pre]
            · have e1 : nxt (node G n ++ [(v, G.length)]) x = none := by
                unfold nxt at h1 ⊢
                rw [List.find?_append, Option.map_eq_none_iff.1 h1]
                simp [List.find?, hit, hv, hx]
              rw [e1]
              have hb : decide (v = x) = false := decide_eq_false hx
              simp [pre, hb]
    | some c =>
      obtain ⟨w, hw, hwv⟩ := nxt_mem h0
      have hwv : w = v := hwv.resolve_left (hne _ hw)
      subst hwv
      obtain ⟨_, hcl, hpc, _⟩ := hI.edge n w c hw
      have hnn : node G n ≠ [] := by intro e; rw [e] at hw; cases hw
      have hcn : c ≠ n := by
        rintro rfl
        have := congrArg List.length hpc
        simp at this
      -- another child is not touched
      have other : ∀ G' : List Nd, (∀ m, m < G.length → ¬ (p.getD c [] <+: p.getD m []) → node G' m = node G m) → ∀ x xs, x ≠ w → matchA G' n (x :: xs) = matchA G n (x :: xs) := by
        intro G' hG x xs hx
        have h1 : node G' n = node G n := hG n hn (by rw [hpc]; exact no_pre)
        simp only [matchA, h1]
        cases h2 : nxt (node G n) x with
        | none => rfl
        | some c2 =>
          obtain ⟨u, hu, hux⟩ := nxt_mem h2
          have hux : u = x := hux.resolve_left (hne _ hu)
          subst hux
          obtain ⟨_, hcl2, hpc2, _⟩ := hI.edge n u c2 hu
          have hsub : ∀ m, m < G.length → p.getD c2 [] <+: p.getD m [] → node G' m = node G m := fun m hm hpm => by
            rw [hpc2] at hpm
            exact hG m hm (fun h => hx (apart hpm (by rw [hpc] at h; exact h)))
          simp only [hsub c2 hcl2 List.prefix_rfl]
          rw [match_congr hI xs c2 hsub hcl2]
      by_cases hleaf : node G c = []
      · have he : addA G n (w :: rest) = G := by simp only [addA, h0, hleaf]; rfl
        rw [he]
        refine ⟨p, hI, List.prefix_rfl, Nat.le_refl _, fun _ _ _ => rfl, fun _ => hnn, fun fs _ => ?_⟩
        cases fs with
        | nil => rfl
        | cons x xs =>
          by_cases hx : w = x
          · subst hx
            have : matchA G n (w :: xs) = true := by simp only [matchA, h0, hleaf]; rfl
            rw [this]; rfl
          · have hb : decide (w = x) = false := decide_eq_false hx
            simp [pre, hb]
      · have hlf : (node G c).isEmpty = false := by simpa using hleaf
        cases rest with
        | nil =>
          have he : addA G n [w] = G.set c [] := by
            simp only [addA, h0]
            rw [if_neg (by simpa using hlf)]
            rfl
          rw [he]
          have hG : ∀ m, m < G.length → ¬ (p.getD c [] <+: p.getD m []) → node (G.set c []) m = node G m := fun m hm h => node_set_ne (by rintro rfl; exact h List.prefix_rfl)
          refine ⟨p, ⟨by rw [List.length_set]; exact hI.len, fun k u d hu => ?_, fun k => ?_⟩, List.prefix_rfl, by rw [List.length_set]; exact Nat.le_refl _, fun m hm h => hG m hm (fun h2 => h (by rw [hpc] at h2; exact (List.prefix_append _ _).trans h2)), fun _ => by rw [node_set_ne hcn]; exact hnn, fun fs _ => ?_⟩
          · rw [List.length_set]
            by_cases e : c = k
            · subst e; rw [node_set_same hcl] at hu; cases hu
            · rw [node_set_ne e] at hu; exact hI.edge k u d hu
          · by_cases e : c = k
            · subst e; rw [node_set_same hcl]; simp
            · rw [node_set_ne e]; exact hI.uniq k
          · cases fs with
            | nil => rfl
            | cons x xs =>
              by_cases hx : w = x
              · subst hx
                have h1 : matchA (G.set c []) n (w :: xs) = true := by
                  simp only [matchA, node_set_ne hcn, h0, node_set_same hcl]; rfl
                rw [h1]
                simp [pre]
              · rw [other (G.set c []) hG x xs (fun e => hx e.symm)]
                have hb : decide (w = x) = false := decide_eq_false hx
                simp [pre, hb]
        | cons u r =>
          have he : addA G n (w :: u :: r) = addA G c (u :: r) := by
            conv => lhs; unfold addA
            simp only [h0]
            rw [if_neg (by simpa using hlf), if_neg (by simp)]
          rw [he]
          obtain ⟨p', i1, i2, i3, i4, i5, i6⟩ := ih G p c hI hcl hA'
          have h5 := i5 (by simp)
          have hn2 : node (addA G c (u :: r)) n = node G n := i4 n hn (by rw [hpc]; exact no_pre)
          refine ⟨p', i1, i2, i3, fun m hm h => i4 m hm (fun h2 => h (by rw [hpc] at h2; exact (List.prefix_append _ _).trans h2)), fun _ => by rw [hn2]; exact hnn, fun fs _ => ?_⟩
          cases fs with
          | nil => rfl
          | cons x xs =>
            by_cases hx : w = x
            · subst hx
              simp only [matchA, hn2, h0]
              rw [if_neg (by simpa using h5), if_neg (by simpa using hlf), i6 xs (by simp)]
              simp [pre]
            · rw [other _ i4 x xs (fun e => hx e.symm)]
              have hb : decide (w = x) = false := decide_eq_false hx
              simp [pre, hb]
theorem build_inv (fs : List (List ByteArray)) : ∀ (G : List Nd) (p : List (List ByteArray)), Inv G p → 0 < G.length → (∀ f ∈ fs, f ≠ [] ∧ ∀ v ∈ f, v ≠ ANY) →
    ∀ xs, matchA (fs.foldl (fun G f => addA G 0 f) G) 0 xs = (matchA G 0 xs || fs.any (fun f => pre f xs)) := by
  induction fs with
  | nil => intro G p _ _ _ xs; simp
  | cons f fs ih =>
    intro G p hI hl hf xs
    obtain ⟨p', i1, _, i3, _, _, i6⟩ := add_inv f G p 0 hI hl (hf f (by simp)).2
    rw [List.foldl_cons, ih (addA G 0 f) p' i1 (by omega) (fun g hg => hf g (List.mem_cons_of_mem _ hg)) xs, i6 xs (hf f (by simp)).1]
    simp [Bool.or_assoc]
theorem many (fs : List (List ByteArray)) (hf : ∀ f ∈ fs, f ≠ [] ∧ ∀ v ∈ f, v ≠ ANY) (xs : List ByteArray) : matchA (buildA fs) 0 xs = fs.any (fun f => pre f xs) := by
  have h1 : ∀ n, node [[]] n = [] := fun n => by cases n <;> rfl
  have hI : Inv [[]] [[]] := { len := rfl, edge := fun n v c h => (by rw [h1 n] at h; cases h), uniq := fun n => (by rw [h1 n]; simp) }
  have := build_inv fs [[]] [[]] hI (by simp) hf xs
  unfold buildA
  rw [this]
  have h0 : matchA [[]] 0 xs = false := by cases xs <;> rfl
  rw [h0, Bool.false_or]
end Go.Proofs.Ythecfligfhpccaa.Fil
