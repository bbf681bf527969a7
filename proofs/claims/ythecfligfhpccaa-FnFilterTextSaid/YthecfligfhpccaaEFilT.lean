/- Filters of which none begins with another: each stands in the tree. And the tree's text. Plain. -/
import Derived.Test.YthecfligfhpccaaEFilP
set_option linter.unusedVariables false
namespace Go.Proofs.Ythecfligfhpccaa.Fil

theorem getD_app {p : List (List ByteArray)} {q : List ByteArray} {m : Nat} (h : m < p.length) : (p ++ [q]).getD m [] = p.getD m [] := by
  rw [List.getD_eq_getElem?_getD, List.getElem?_append_left h, List.getD_eq_getElem?_getD]
theorem getD_new {p : List (List ByteArray)} {q : List ByteArray} : (p ++ [q]).getD p.length [] = q := by
  rw [List.getD_eq_getElem?_getD, List.getElem?_append_right (Nat.le_refl _)]
  simp
/-- The tree of filters F; x: a node that may be a leaf though no filter ends there yet. -/
structure Tr (G : List Nd) (p : List (List ByteArray)) (F : List (List ByteArray)) (x : Nat) (d : Nat) : Prop where
  inv : Inv G p
  pos : 0 < G.length
  root : p.getD 0 [] = []
  pre : ∀ m, m < G.length → m ≠ 0 → ∃ f ∈ F, p.getD m [] <+: f
  leaf : ∀ m, m < G.length → m ≠ 0 → m ≠ x → node G m = [] → p.getD m [] ∈ F
  par : ∀ c, c < G.length → c ≠ 0 → ∃ n v, (v, c) ∈ node G n
  fan : ∀ m, (node G m).length ≤ F.length ∧ (d ≤ (p.getD m []).length → m < G.length → (node G m).length + 1 ≤ F.length)
theorem node_out {G : List Nd} {m : Nat} (h : G.length ≤ m) : node G m = [] := by
  unfold node
  rw [List.getD_eq_getElem?_getD, List.getElem?_eq_none h]; rfl
/-- A node without edges: what is left of the filter grows there. -/
theorem tr_grow (F : List (List ByteArray)) (f : List ByteArray) (hF : f ∈ F) (rest : List ByteArray) : ∀ (G : List Nd) (p : List (List ByteArray)) (n : Nat), Tr G p F n (p.getD n []).length → n < G.length → node G n = [] → f = p.getD n [] ++ rest → (∀ v ∈ f, v ≠ ANY) →
    ∃ p', Tr (addA G n rest) p' F 0 (f.length) ∧ p <+: p' ∧ G.length ≤ (addA G n rest).length ∧ ∃ c, c < (addA G n rest).length ∧ p'.getD c [] = f := by
  induction rest with
  | nil =>
    intro G p n hT hn h0 hf ha
    rw [List.append_nil] at hf
    refine ⟨p, ⟨hT.inv, hT.pos, hT.root, hT.pre, fun m hm hm0 _ hl => ?_, hT.par, by rw [hf]; exact hT.fan⟩, List.prefix_rfl, Nat.le_refl _, n, hn, hf.symm⟩
    by_cases e : m = n
    · subst e; rw [← hf]; exact hF
    · exact hT.leaf m hm hm0 e hl
  | cons v r ih =>
    intro G p n hT hn h0 hf ha
    have hnx : nxt (node G n) v = none := by rw [h0]; rfl
    have hv : v ≠ ANY := ha v (by rw [hf]; simp)
    have hpl : p.length = G.length := hT.inv.len
    have he : addA G n (v :: r) = addA (grow G n v) G.length r := by simp only [addA, hnx]
    have hlg := length_grow G n v
    have hp : ∀ m, m < G.length → (p ++ [p.getD n [] ++ [v]]).getD m [] = p.getD m [] := fun m hm => getD_app (by omega)
    have hpc : (p ++ [p.getD n [] ++ [v]]).getD G.length [] = p.getD n [] ++ [v] := by rw [← hpl]; exact getD_new
    have hpre : (p.getD n [] ++ [v]) <+: f := by rw [hf]; exact ⟨r, by simp⟩
    have hT2 : Tr (grow G n v) (p ++ [p.getD n [] ++ [v]]) F G.length ((p ++ [p.getD n [] ++ [v]]).getD G.length []).length := by
      refine ⟨inv_grow hT.inv hn hv hnx, by omega, by rw [hp 0 hT.pos]; exact hT.root, fun m hm hm0 => ?_, fun m hm hm0 hmx hl => ?_, fun c hc hc0 => ?_, fun m => ?_⟩
      · rcases Nat.lt_or_ge m G.length with h | h
        · rw [hp m h]; exact hT.pre m h hm0
        · obtain rfl : m = G.length := by omega
          rw [hpc]; exact ⟨f, hF, hpre⟩
      · have h : m < G.length := by omega
        by_cases e : n = m
        · subst e
          rw [node_grow_same hn] at hl
          simp at hl
        · rw [node_grow_ne e h] at hl
          rw [hp m h]
          exact hT.leaf m h hm0 (fun e2 => e e2.symm) hl
      · rcases Nat.lt_or_ge c G.length with h | h
        · obtain ⟨k, w, hw⟩ := hT.par c h hc0
          refine ⟨k, w, ?_⟩
          by_cases e : n = k
          · subst e; rw [node_grow_same hn]; exact List.mem_append_left _ hw
          · have hk := (hT.inv.edge k w c hw).1
            rw [node_grow_ne e hk]; exact hw
        · obtain rfl : c = G.length := by omega
          exact ⟨n, v, by rw [node_grow_same hn]; simp⟩
      · have h1 := hT.fan m
        rw [hpc]
        rcases Nat.lt_or_ge m G.length with h | h
        · rw [hp m h]
          by_cases e : n = m
          · subst e
            rw [node_grow_same hn]
            have h2 := h1.2 (Nat.le_refl _) hn
            refine ⟨by simp; omega, fun h3 => ?_⟩
            simp at h3
            omega
          · rw [node_grow_ne e h]
            refine ⟨h1.1, fun h3 _ => h1.2 ?_ h⟩
            rw [List.length_append] at h3
            simp at h3
            simp
            omega
        · have h2 : node (grow G n v) m = [] := by
            rcases Nat.lt_or_ge G.length m with h3 | h3
            · exact node_out (by omega)
            · obtain rfl : m = G.length := by omega
              exact node_grow_new
          rw [h2]
          have h4 : 0 < F.length := List.length_pos_of_mem hF
          exact ⟨by simp, fun _ _ => by simp; omega⟩
    rw [he]
    obtain ⟨p', h1, h2, h3, h4⟩ := ih (grow G n v) (p ++ [p.getD n [] ++ [v]]) G.length hT2 (by omega) node_grow_new (by rw [hpc, hf]; simp) ha
    exact ⟨p', h1, (List.prefix_append _ _).trans h2, by omega, h4⟩
/-- A filter that neither begins with an elder one nor is the beginning of one is added. -/
theorem tr_walk (F : List (List ByteArray)) (f : List ByteArray) (hno : ∀ g ∈ F, ¬ g <+: f ∧ ¬ f <+: g) (ha : ∀ v ∈ f, v ≠ ANY) (rest : List ByteArray) : ∀ (G : List Nd) (p : List (List ByteArray)) (n : Nat) (d : Nat), Tr G p F 0 d → (∀ m, (node G m).length ≤ F.length) → n < G.length → f = p.getD n [] ++ rest →
    ∃ p', Tr (addA G n rest) p' (f :: F) 0 (f.length) ∧ p <+: p' ∧ G.length ≤ (addA G n rest).length ∧ ∃ c, c < (addA G n rest).length ∧ p'.getD c [] = f := by
  induction rest with
  | nil =>
    intro G p n d hT hfan hn hf
    rw [List.append_nil] at hf
    refine ⟨p, ⟨hT.inv, hT.pos, hT.root, fun m hm h0 => ?_, fun m hm h0 h1 h2 => List.mem_cons_of_mem _ (hT.leaf m hm h0 h1 h2), hT.par, fun m => ⟨Nat.le_succ_of_le (hfan m), fun _ _ => Nat.succ_le_succ (hfan m)⟩⟩, List.prefix_rfl, Nat.le_refl _, n, hn, hf.symm⟩
    obtain ⟨g, hg, h⟩ := hT.pre m hm h0
    exact ⟨g, List.mem_cons_of_mem _ hg, h⟩
  | cons v r ih =>
    intro G p n d hT hfan hn hf
    have hv : v ≠ ANY := ha v (by rw [hf]; simp)
    cases hc : nxt (node G n) v with
    | none =>
      have hpl : p.length = G.length := hT.inv.len
      have he : addA G n (v :: r) = addA (grow G n v) G.length r := by simp only [addA, hc]
      have hlg := length_grow G n v
      have hp : ∀ m, m < G.length → (p ++ [p.getD n [] ++ [v]]).getD m [] = p.getD m [] := fun m hm => getD_app (by omega)
      have hpc : (p ++ [p.getD n [] ++ [v]]).getD G.length [] = p.getD n [] ++ [v] := by rw [← hpl]; exact getD_new
      have hpre : (p.getD n [] ++ [v]) <+: f := by rw [hf]; exact ⟨r, by simp⟩
      have hT2 : Tr (grow G n v) (p ++ [p.getD n [] ++ [v]]) (f :: F) G.length ((p ++ [p.getD n [] ++ [v]]).getD G.length []).length := by
        refine ⟨inv_grow hT.inv hn hv hc, by omega, by rw [hp 0 hT.pos]; exact hT.root, fun m hm hm0 => ?_, fun m hm hm0 hmx hl => ?_, fun c hc2 hc0 => ?_, fun m => ?_⟩
        · rcases Nat.lt_or_ge m G.length with h | h
          · rw [hp m h]
            obtain ⟨g, hg, h2⟩ := hT.pre m h hm0
            exact ⟨g, List.mem_cons_of_mem _ hg, h2⟩
          · obtain rfl : m = G.length := by omega
            rw [hpc]; exact ⟨f, by simp, hpre⟩
        · have h : m < G.length := by omega
          by_cases e : n = m
          · subst e
            rw [node_grow_same hn] at hl
            simp at hl
          · rw [node_grow_ne e h] at hl
            rw [hp m h]
            exact List.mem_cons_of_mem _ (hT.leaf m h hm0 hm0 hl)
        · rcases Nat.lt_or_ge c G.length with h | h
          · obtain ⟨k, w, hw⟩ := hT.par c h hc0
            refine ⟨k, w, ?_⟩
            by_cases e : n = k
            · subst e; rw [node_grow_same hn]; exact List.mem_append_left _ hw
            · have hk := (hT.inv.edge k w c hw).1
              rw [node_grow_ne e hk]; exact hw
          · obtain rfl : c = G.length := by omega
            exact ⟨n, v, by rw [node_grow_same hn]; simp⟩
        · have h1 := hfan m
          rcases Nat.lt_or_ge m G.length with h | h
          · rw [hp m h, hpc]
            by_cases e : n = m
            · subst e
              rw [node_grow_same hn]
              refine ⟨by simp; omega, fun h3 => ?_⟩
              simp at h3
              omega
            · rw [node_grow_ne e h]
              exact ⟨by simp; omega, fun _ _ => by simp; omega⟩
          · have h2 : node (grow G n v) m = [] := by
              rcases Nat.lt_or_ge G.length m with h3 | h3
              · exact node_out (by omega)
              · obtain rfl : m = G.length := by omega
                exact node_grow_new
            rw [h2]
            exact ⟨by simp, fun _ _ => by simp⟩
      rw [he]
      obtain ⟨p', h1, h2, h3, h4⟩ := tr_grow (f :: F) f (by simp) r (grow G n v) (p ++ [p.getD n [] ++ [v]]) G.length hT2 (by omega) node_grow_new (by rw [hpc, hf]; simp) ha
      exact ⟨p', h1, (List.prefix_append _ _).trans h2, by omega, h4⟩
    | some c =>
      obtain ⟨v', hv', hor⟩ := nxt_mem hc
      obtain ⟨_, hcl, hpc, hna⟩ := hT.inv.edge n v' c hv'
      have hvv : v' = v := hor.resolve_left hna
      subst hvv
      have hc0 : c ≠ 0 := by
        rintro rfl
        rw [hT.root] at hpc
        have := congrArg List.length hpc
        simp at this
      have hfc : f = p.getD c [] ++ r := by rw [hpc, hf]; simp
      have hpf : p.getD c [] <+: f := ⟨r, hfc.symm⟩
      by_cases hle : (node G c).isEmpty = true
      · have hl : node G c = [] := List.isEmpty_iff.1 hle
        exact absurd hpf (hno _ (hT.leaf c hcl hc0 hc0 hl)).1
      · by_cases hr : r.isEmpty = true
        · have hr2 : r = [] := List.isEmpty_iff.1 hr
          obtain ⟨g, hg, h⟩ := hT.pre c hcl hc0
          rw [hr2, List.append_nil] at hfc
          rw [← hfc] at h
          exact absurd h (hno g hg).2
        · have he : addA G n (v' :: r) = addA G c r := by
            simp only [addA, hc]
            rw [if_neg hle, if_neg hr]
          rw [he]
          exact ih G p c d hT hfan hcl hfc
/-- The whole tree. -/
theorem tr_build (fs : List (List ByteArray)) : ∀ (G : List Nd) (p : List (List ByteArray)) (F : List (List ByteArray)) (d : Nat), Tr G p F 0 d → (∀ g ∈ F, ∃ c, c < G.length ∧ p.getD c [] = g) → (∀ f ∈ fs, ∀ v ∈ f, v ≠ ANY) → (∀ f ∈ fs, ∀ g ∈ F, ¬ g <+: f ∧ ¬ f <+: g) → fs.Pairwise (fun a b => ¬ a <+: b ∧ ¬ b <+: a) →
    ∃ p' d', Tr (fs.foldl (fun G f => addA G 0 f) G) p' (fs.reverse ++ F) 0 d' ∧ ∀ g ∈ fs.reverse ++ F, ∃ c, c < (fs.foldl (fun G f => addA G 0 f) G).length ∧ p'.getD c [] = g := by
  induction fs with
  | nil => intro G p F d hT hh _ _ _; exact ⟨p, d, by simpa using hT, by simpa using hh⟩
  | cons f fs ih =>
    intro G p F d hT hh ha hno hpw
    obtain ⟨p1, h1, h2, h3, c, hc, hpc⟩ := tr_walk F f (hno f (by simp)) (ha f (by simp)) f G p 0 d hT (fun m => (hT.fan m).1) hT.pos (by rw [hT.root]; rfl)
    have hp1 : ∀ m, m < G.length → p1.getD m [] = p.getD m [] := fun m hm => by
      obtain ⟨t, rfl⟩ := h2
      rw [List.getD_eq_getElem?_getD, List.getElem?_append_left (by rw [hT.inv.len]; exact hm), List.getD_eq_getElem?_getD]
    rw [List.pairwise_cons] at hpw
    obtain ⟨p', d', h4, h5⟩ := ih (addA G 0 f) p1 (f :: F) _ h1 (fun g hg => by
      rcases List.mem_cons.1 hg with rfl | hg
      · exact ⟨c, hc, hpc⟩
      · obtain ⟨c2, hc2, hp2⟩ := hh g hg
        exact ⟨c2, by omega, by rw [hp1 c2 hc2]; exact hp2⟩) (fun g hg => ha g (List.mem_cons_of_mem _ hg)) (fun g hg e he => by
      rcases List.mem_cons.1 he with rfl | he
      · exact hpw.1 g hg
      · exact hno g (List.mem_cons_of_mem _ hg) e he) hpw.2
    refine ⟨p', d', ?_, ?_⟩
    · simpa using h4
    · intro g hg
      exact h5 g (by simpa using hg)
/-! ### The tree's text -/
def line (d : Nat) (v : ByteArray) : List UInt8 := (List.replicate d [(32 : UInt8), 32]).flatten ++ v.data.toList ++ [10]
def rend (G : List Nd) : Nat → Nat → Nat → List UInt8
  | 0, _, _ => []
  | k + 1, d, n => ((node G n).map (fun e => line d e.1 ++ rend G k (d + 1) e.2)).flatten
/-- Levels: an edge leads one down, at most to the eighth; few edges a node; short features. -/
def Rd (G : List Nd) (lv : Nat → Nat) : Prop := (∀ n v c, (v, c) ∈ node G n → lv c = lv n + 1 ∧ lv c ≤ 8 ∧ v.size ≤ 40) ∧ ∀ n, (node G n).length ≤ 8
theorem line_length (d : Nat) (v : ByteArray) : (line d v).length = 2 * d + v.size + 1 := by
  unfold line
  have h1 : (List.replicate d [(32 : UInt8), 32]).flatten.length = 2 * d := by
    induction d with
    | zero => rfl
    | succ d ih => rw [List.replicate_succ, List.flatten_cons, List.length_append, ih]; simp; omega
  rw [List.length_append, List.length_append, h1, Array.length_toList]
  rfl
theorem flat_len (l : List (List UInt8)) (M : Nat) (h : ∀ x ∈ l, x.length ≤ M) : l.flatten.length ≤ l.length * M := by
  induction l with
  | nil => simp
  | cons x l ih =>
    have h1 := h x (by simp)
    have h2 := ih (fun y hy => h y (List.mem_cons_of_mem _ hy))
    rw [List.flatten_cons, List.length_append, List.length_cons, Nat.succ_mul]
    omega
def rendMax : Nat → Nat
  | 0 => 0
  | k + 1 => 8 * (60 + rendMax k)
theorem rend_length {G : List Nd} {lv : Nat → Nat} (h : Rd G lv) (k : Nat) : ∀ n, lv n ≤ 8 → (rend G k (lv n) n).length ≤ rendMax k := by
  induction k with
  | zero => intro n _; simp [rend, rendMax]
  | succ k ih =>
    intro n hn
    simp only [rend, rendMax]
    have h1 := flat_len ((node G n).map (fun e => line (lv n) e.1 ++ rend G k (lv n + 1) e.2)) (60 + rendMax k) (fun x hx => by
      obtain ⟨e, he, rfl⟩ := List.mem_map.1 hx
      obtain ⟨a, b, c⟩ := h.1 n e.1 e.2 he
      have h2 := ih e.2 b
      rw [a] at h2
      rw [List.length_append, line_length]
      omega)
    rw [List.length_map] at h1
    exact Nat.le_trans h1 (Nat.mul_le_mul_right _ (h.2 n))
theorem infix_flat {l : List (List UInt8)} {x : List UInt8} (h : x ∈ l) : x <:+: l.flatten := by
  obtain ⟨a, b, rfl⟩ := List.append_of_mem h
  exact ⟨a.flatten, b.flatten, by simp⟩
theorem rend_edge {G : List Nd} {n c : Nat} {v : ByteArray} (h : (v, c) ∈ node G n) (k d : Nat) : v.data.toList <:+: rend G (k + 1) d n ∧ rend G k (d + 1) c <:+: rend G (k + 1) d n := by
  have h1 : (line d v ++ rend G k (d + 1) c) <:+: rend G (k + 1) d n := infix_flat (List.mem_map.2 ⟨(v, c), h, rfl⟩)
  refine ⟨List.IsInfix.trans ?_ h1, List.IsInfix.trans ?_ h1⟩
  · exact ⟨(List.replicate d [(32 : UInt8), 32]).flatten, [10] ++ rend G k (d + 1) c, by simp [line]⟩
  · exact ⟨line d v, [], by simp⟩
/-- What the tree's text has. -/
theorem rend_has {G : List Nd} {p : List (List ByteArray)} {F : List (List ByteArray)} {x d : Nat} (hT : Tr G p F x d) (h8 : ∀ m, m < G.length → (p.getD m []).length ≤ 8) (q : Nat) : ∀ c, c < G.length → (p.getD c []).length = q → rend G (9 - q) q c <:+: rend G 9 0 0 ∧ ∀ v ∈ p.getD c [], v.data.toList <:+: rend G 9 0 0 := by
  induction q with
  | zero =>
    intro c hc hq
    have hc0 : c = 0 := by
      rcases Nat.eq_zero_or_pos c with h | h
      · exact h
      · obtain ⟨n, v, hv⟩ := hT.par c hc (by omega)
        obtain ⟨_, _, h3, _⟩ := hT.inv.edge n v c hv
        rw [h3] at hq
        simp at hq
    subst hc0
    rw [List.length_eq_zero_iff.1 hq]
    exact ⟨List.infix_rfl, by simp⟩
  | succ q ih =>
    intro c hc hq
    have hc0 : c ≠ 0 := by
      rintro rfl
      rw [hT.root] at hq
      simp at hq
    obtain ⟨n, v, hv⟩ := hT.par c hc hc0
    obtain ⟨hn, _, h3, _⟩ := hT.inv.edge n v c hv
    have hqn : (p.getD n []).length = q := by rw [h3, List.length_append] at hq; simpa using hq
    obtain ⟨i1, i2⟩ := ih n hn hqn
    have hq8 := h8 c hc
    have e9 : 9 - q = (9 - (q + 1)) + 1 := by omega
    obtain ⟨j1, j2⟩ := rend_edge hv (9 - (q + 1)) q
    rw [← e9] at j1 j2
    refine ⟨j2.trans i1, fun w hw => ?_⟩
    rw [h3] at hw
    rcases List.mem_append.1 hw with hw | hw
    · exact i2 w hw
    · rw [List.mem_singleton.1 hw]; exact j1.trans i1
end Go.Proofs.Ythecfligfhpccaa.Fil
