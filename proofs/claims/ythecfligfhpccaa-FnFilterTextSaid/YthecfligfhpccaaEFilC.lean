/- A filter is added: the walk down its nodes, with a node more or one cleared. -/
import Derived.Test.YthecfligfhpccaaEFilB
import Derived.OneCell
set_option linter.unusedVariables false
namespace Go.Proofs.Ythecfligfhpccaa.P
open Go.RowKit Go.Proofs.YthecfligfhpccaaW.PrintWords Go.Proofs.YthecfligfhpccaaW.PrintLast Go.Proofs.YthecfligfhpccaaW.PrintMore
open Go.Proofs.Ythecfligfhpccaa.X

theorem Small.grow {G : List Fil.Nd} {m : Nat} (h : Small G m) (n : Nat) (v : ByteArray) (hn : n < G.length) : Small (Fil.grow G n v) (m + 1) := by
  intro i
  rcases Nat.lt_or_ge i G.length with hi | hi
  · by_cases e : n = i
    · subst e
      rw [Fil.node_grow_same hn]
      have := h n
      simp
      omega
    · rw [Fil.node_grow_ne e hi]
      have := h i
      omega
  · rcases Nat.lt_or_ge G.length i with h2 | h2
    · have : Fil.node (Fil.grow G n v) i = [] := by
        unfold Fil.node
        rw [List.getD_eq_getElem?_getD, List.getElem?_eq_none (by rw [Fil.length_grow]; omega)]; rfl
      rw [this]; simp
    · obtain rfl : i = G.length := by omega
      rw [Fil.node_grow_new]; simp
theorem Small.up {G : List Fil.Nd} {m k : Nat} (h : Small G m) (hk : m ≤ k) : Small G k := fun i => Nat.le_trans (h i) hk
theorem FTree.clear {W : World} {base : Nat} {bs : List Nat} {G : List Fil.Nd} (h : FTree W base bs G) {cc d : Nat} (hd : bs[cc]? = some d) : FTree (W.setCell ⟨d, 0, none⟩ (.slice none 0 0)) base bs (G.set cc []) ∧ base ≤ d := by
  obtain ⟨h1, h2, own, h3⟩ := h
  have hcl := (List.getElem?_eq_some_iff.1 hd).1
  obtain ⟨hb, v, t, hh, ht, he⟩ := h3 cc d hd
  refine ⟨⟨by rw [List.length_set]; exact h1, h2, own, fun i b hi => ?_⟩, hb⟩
  obtain ⟨a, v', t', hh', ht', he'⟩ := h3 i b hi
  by_cases e : cc = i
  · subst e
    obtain rfl : d = b := by rw [hd] at hi; injection hi
    rw [Fil.node_set_same (by omega)]
    refine ⟨a, .slice none 0 0, t, ?_, ht, [], Kd.R_nil _ _ _ _ _, rfl, fun _ => rfl, fun j b e hj => by simp at hj⟩
    exact one_setCell hh
  · rw [Fil.node_set_ne e]
    have hne : b ≠ d := by
      rintro rfl
      exact e ((List.getElem?_inj hcl h2).1 (by rw [hd, hi]))
    obtain ⟨ebs, hR, hl, hn, hE⟩ := he'
    refine ⟨a, v', t', (Below.heap_setCell W ⟨d, 0, none⟩ _ b hne).trans hh', ht', ebs, Kd.R_set hR hh (by intro q hq; simp [kP, Kd.scalar] at hq; subst hq; rcases ht with rfl | rfl <;> decide) 0 _, hl, hn, fun j b2 e2 hj1 hj2 => ?_⟩
    obtain ⟨⟨c2, hc2, hh2⟩, q1, q2⟩ := hE j b2 e2 hj1 hj2
    have hne2 : b2 ≠ d := by
      rintro rfl
      rw [hh] at hh2
      injection hh2 with hh2
      injection hh2 with _ ht2
      rcases ht with rfl | rfl <;> cases ht2
    exact ⟨⟨c2, hc2, (Below.heap_setCell W ⟨d, 0, none⟩ _ b2 hne2).trans hh2⟩, q1, q2⟩

theorem info58 : (Try.prog.info? 86).map (fun i => (i.zero, i.size, i.bytes)) = some (some (.pointer none), 1, 8) := by kernel_rfl
theorem kP_M {W : World} {base : Nat} {ok : Nat → Prop} (b : Nat) : kP.M W base ok b [.pointer (some ⟨b, 0, none⟩)] := rfl

/-- The tree, with the rows' owners told. -/
def FTo (W : World) (base : Nat) (bs : List Nat) (G : List Fil.Nd) (own : Nat → Nat) : Prop :=
  bs.length = G.length ∧ bs.Nodup ∧ ∀ (i : Nat) b, bs[i]? = some b → base ≤ b ∧ ∃ v t, W.heap[b]? = some (.cells #[v] t (0, 0)) ∧ (t = 73 ∨ t = 71) ∧ Edges W base (fun k => own k = i) bs v (Fil.node G i)
theorem FTo.below {W w1 : World} {base : Nat} {bs : List Nat} {G : List Fil.Nd} {own : Nat → Nat} (h : FTo W base bs G own) (hb : Below W.heap.size W w1) : FTo w1 base bs G own := by
  obtain ⟨h1, h2, h3⟩ := h
  refine ⟨h1, h2, fun i b hi => ?_⟩
  obtain ⟨a, v, t, hh, ht, he⟩ := h3 i b hi
  exact ⟨a, v, t, (hb.block b (blk_lt hh)).trans hh, ht, he.below hb⟩
theorem Edges.more {W W5 : World} {base nb : Nat} {ok : Nat → Prop} {bs : List Nat} {v : Value} {es : Fil.Nd} (h : Edges W base ok bs v es) (hk : ∀ k, k < W.heap.size → (∃ cells q, W.heap[k]? = some (.cells cells q (0, 0)) ∧ (q = 85 ∨ q = 86 ∧ ok k)) → W5.heap[k]? = W.heap[k]?) : Edges W5 base ok (bs ++ [nb]) v es := by
  obtain ⟨ebs, hR, hl, hn, he⟩ := h
  refine ⟨ebs, Kd.R_mono (Kd.R_move (Kd.R_bound hR) (fun k hk2 => ?_)) (fun _ hk => hk.1), hl, hn, fun j b e h1 h2 => ?_⟩
  · obtain ⟨h1, h2, h3, q, hq, cells, hc⟩ := hk2
    have : q = 86 := by simpa [kP, Kd.scalar] using hq
    subst this
    exact hk k h3 ⟨cells, 86, hc, .inr ⟨rfl, h1⟩⟩
  · obtain ⟨⟨c, hc, hh⟩, h3, h4⟩ := he j b e h1 h2
    refine ⟨⟨c, ?_, (hk b (blk_lt hh) ⟨_, 85, hh, .inl rfl⟩).trans hh⟩, h3, h4⟩
    have := (List.getElem?_eq_some_iff.1 hc).1
    rw [List.getElem?_append_left this]; exact hc
theorem Edges.okmono {W : World} {base : Nat} {ok ok' : Nat → Prop} {bs : List Nat} {v : Value} {es : Fil.Nd} (h : Edges W base ok bs v es) (hk : ∀ k, k < W.heap.size → ok k → ok' k) : Edges W base ok' bs v es := by
  obtain ⟨ebs, hR, hl, hn, he⟩ := h
  exact ⟨ebs, Kd.R_mono (Kd.R_bound hR) (fun k hk2 => hk k hk2.2.2.1 hk2.1), hl, hn, fun j b e h1 h2 => by
    obtain ⟨⟨c, hc, hh⟩, h3, h4⟩ := he j b e h1 h2
    exact ⟨⟨c, hc, hh⟩, hk b (blk_lt hh) h3, h4⟩⟩
/-- A node more: its edge is the last of node n's. -/
theorem FTo.grown {w1 W5 : World} {base n b eb nb t : Nat} {own : Nat → Nat} {bs ebs : List Nat} {G : List Fil.Nd} {v v1 : Value} {x : ByteArray}
    (h : FTo w1 base bs G own) (hn : bs[n]? = some b) (hh : w1.heap[b]? = some (.cells #[v] t (0, 0))) (hold : kP.R 86 w1 base (fun k => own k = n) v ebs) (hel : ebs.length = (Fil.node G n).length)
    (hee : ∀ (j : Nat) b e, ebs[j]? = some b → (Fil.node G n)[j]? = some e → Edge w1 bs b e ∧ own b = n ∧ base ≤ b)
    (hk : ∀ k, k < w1.heap.size → k ≠ b → some k ≠ v.ownBlock → W5.heap[k]? = w1.heap[k]?) (hb : W5.heap[b]? = some (.cells #[v1] t (0, 0)))
    (heb : W5.heap[eb]? = some (.cells #[.string x, .pointer (some ⟨nb, 0, none⟩)] 85 (0, 0))) (he1 : w1.heap.size ≤ eb) (hnb : W5.heap[nb]? = some (.cells #[.slice none 0 0] 71 (0, 0))) (hn1 : w1.heap.size ≤ nb) (hbase : base ≤ w1.heap.size)
    (hR : kP.R 86 W5 base (fun k => (if k < w1.heap.size then own k else n) = n) v1 (ebs ++ [eb])) : FTree W5 base (bs ++ [nb]) (Fil.grow G n x) ∧ (bs ++ [nb])[G.length]? = some nb := by
  obtain ⟨h1, h2, h3⟩ := h
  have hnl : n < G.length := by rw [← h1]; exact (List.getElem?_eq_some_iff.1 hn).1
  have hlast : (bs ++ [nb])[G.length]? = some nb := by rw [← h1]; simp
  refine ⟨⟨by simp [h1, Fil.length_grow], ?_, fun k => if k < w1.heap.size then own k else n, fun i c hi => ?_⟩, hlast⟩
  · rw [List.nodup_append]
    refine ⟨h2, by simp, fun c hc d hd => ?_⟩
    obtain ⟨i, hi⟩ := List.getElem?_of_mem hc
    obtain ⟨_, v', t', hh', _⟩ := h3 i c hi
    have := blk_lt hh'
    simp at hd
    omega
  · rcases Nat.lt_or_ge i G.length with hlt | hge
    · rw [List.getElem?_append_left (by omega)] at hi
      by_cases e : n = i
      · subst e
        obtain rfl : b = c := by rw [hn] at hi; injection hi
        obtain ⟨h4, v', t', hh', ht', _⟩ := h3 n b hi
        rw [hh] at hh'
        injection hh' with hh'
        injection hh' with _ e2
        subst e2
        rw [Fil.node_grow_same hlt]
        refine ⟨h4, v1, t, hb, ht', ebs ++ [eb], hR, by simp [hel], fun q => by simp at q, fun j d e q1 q2 => ?_⟩
        rcases Nat.lt_or_ge j ebs.length with hj | hj
        · rw [List.getElem?_append_left hj] at q1
          rw [List.getElem?_append_left (by omega)] at q2
          obtain ⟨⟨c2, hc2, hh2⟩, h5, h6⟩ := hee j d e q1 q2
          have hdl := blk_lt hh2
          refine ⟨⟨c2, ?_, (hk d hdl ?_ ?_).trans hh2⟩, ?_, h6⟩
          · have := (List.getElem?_eq_some_iff.1 hc2).1
            rw [List.getElem?_append_left this]; exact hc2
          · rintro rfl
            rw [hh] at hh2
            injection hh2 with hh2
            injection hh2 with _ e2
            rcases ht' with rfl | rfl <;> cases e2
          · exact Kd.R_ne hold hh2 (by decide)
          · simp [hdl, h5]
        · obtain rfl : j = ebs.length := by
            have := (List.getElem?_eq_some_iff.1 q1).1
            simp at this
            omega
          rw [List.getElem?_append_right (Nat.le_refl _)] at q1
          rw [hel, List.getElem?_append_right (Nat.le_refl _)] at q2
          simp at q1 q2
          subst q1 q2
          refine ⟨⟨nb, hlast, heb⟩, ?_, by omega⟩
          show (if eb < w1.heap.size then own eb else n) = n
          rw [if_neg (Nat.not_lt.2 he1)]
      · obtain ⟨h4, v', t', hh', ht', hE⟩ := h3 i c hi
        have hcb : c ≠ b := by
          rintro rfl
          have hil := (List.getElem?_eq_some_iff.1 hn).1
          exact e ((List.getElem?_inj hil h2).1 (by rw [hn, hi]))
        rw [Fil.node_grow_ne e hlt]
        refine ⟨h4, v', t', (hk c (blk_lt hh') hcb (Kd.R_ne hold hh' (by rcases ht' with rfl | rfl <;> decide))).trans hh', ht', Edges.more (Edges.okmono hE (fun k hk ho => ?_)) (fun k hkl hcell => ?_)⟩
        · show (if k < w1.heap.size then own k else n) = i
          rw [if_pos hk]; exact ho
        · obtain ⟨cells, q, hc, hq⟩ := hcell
          have hb2 : k ≠ b := by
            rintro rfl
            obtain ⟨_, v'', t'', hh'', ht'', _⟩ := h3 n k hn
            rw [hc] at hh''
            injection hh'' with hh''
            injection hh'' with _ e2
            rcases hq with rfl | ⟨rfl, _⟩ <;> rcases ht'' with rfl | rfl <;> cases e2
          refine hk k hkl hb2 ?_
          rcases hq with rfl | ⟨rfl, hok⟩
          · exact Kd.R_ne hold hc (by decide)
          · intro e3
            replace hok : (if k < w1.heap.size then own k else n) = i := hok
            rw [if_pos hkl] at hok
            exact e ((hold.1 k e3.symm).symm.trans hok)
    · obtain rfl : i = G.length := by
        have := (List.getElem?_eq_some_iff.1 hi).1
        simp at this
        omega
      rw [hlast] at hi
      injection hi with hi
      subst hi
      rw [Fil.node_grow_new]
      exact ⟨by omega, _, 71, hnb, .inr rfl, [], Kd.R_nil _ _ _ _ _, rfl, fun _ => rfl, fun j b e hj => by simp at hj⟩
theorem size_alloc (w : World) (o : Obj) : (w.alloc o).heap.size = w.heap.size + 1 := Array.size_push ..
theorem FTo.added {w0 w1 w2 w5 : World} {base n b gb t : Nat} {own : Nat → Nat} {bs ebs : List Nat} {G : List Fil.Nd} {v v2 : Value} {x : ByteArray}
    (h : FTo w1 base bs G own) (hn : bs[n]? = some b) (hh : w1.heap[b]? = some (.cells #[v] t (0, 0))) (ht : t = 73 ∨ t = 71) (hold : kP.R 86 w1 base (fun k => own k = n) v ebs) (hel : ebs.length = (Fil.node G n).length)
    (hee : ∀ (j : Nat) b e, ebs[j]? = some b → (Fil.node G n)[j]? = some e → Edge w1 bs b e ∧ own b = n ∧ base ≤ b)
    (hg : (w1.alloc (.cells #[.string x, .pointer none] 85 (0, 0))).grownBy w2 v.ownBlock) (hr : kP.R 86 w2 base (fun k => (if k < w1.heap.size then own k else n) = n) v2 (ebs ++ [w1.heap.size])) (hbase : base ≤ w1.heap.size) (h2 : Below base w0 w2)
    (hgb : gb = (w2.setCell ⟨b, 0, none⟩ v2).heap.size) (hbx : w5.heap[gb]? = some (.cells #[.slice none 0 0] 71 (0, 0))) (h5 : Below (w2.setCell ⟨b, 0, none⟩ v2).heap.size (w2.setCell ⟨b, 0, none⟩ v2) w5) :
    (FTree (w5.setCell ⟨w1.heap.size, 1, none⟩ (.pointer (some ⟨gb, 0, none⟩))) base (bs ++ [gb]) (Fil.grow G n x) ∧ (bs ++ [gb])[G.length]? = some gb) ∧ Below base w0 (w5.setCell ⟨w1.heap.size, 1, none⟩ (.pointer (some ⟨gb, 0, none⟩))) := by
  have hbl := blk_lt hh
  have hbb : base ≤ b := by obtain ⟨_, _, h3⟩ := h; exact (h3 n b hn).1
  have hs2 : w1.heap.size < w2.heap.size := by have := hg.size; rw [size_alloc] at this; omega
  have hs3 : (w2.setCell ⟨b, 0, none⟩ v2).heap.size = w2.heap.size := World.size_setCell ..
  have hne2 : some b ≠ v.ownBlock := Kd.R_ne hold hh (by rcases ht with rfl | rfl <;> decide)
  have hne3 : some w1.heap.size ≠ v.ownBlock := Kd.R_ne (Kd.R_alloc hold (.cells #[.string x, .pointer none] 85 (0, 0))) (heap_new w1 _) (by decide)
  have hk2 := blk_grown (blk_alloc hh _) hg hne2
  have hk3 := blk_grown (heap_new w1 _) hg hne3
  have hk5 := blk_below (blk_far hk3 (p := ⟨b, 0, none⟩) (by show w1.heap.size ≠ b; omega) v2) h5
  have hne5 : gb ≠ w1.heap.size := by omega
  refine ⟨FTo.grown h hn hh hold hel hee (v1 := v2) (eb := w1.heap.size) (fun k hk1 hk2 hk3 => ?_) ?_ (blk_put hk5 1 _ rfl) (Nat.le_refl _) (blk_far hbx hne5 _) (by omega) hbase ?_, ?_⟩
  · exact (Below.heap_setCell w5 ⟨w1.heap.size, 1, none⟩ _ k (by show k ≠ w1.heap.size; omega)).trans ((h5.block k (by omega)).trans ((Below.heap_setCell w2 ⟨b, 0, none⟩ _ k hk2).trans ((hg.block k (by rw [size_alloc]; omega) hk3).trans (heap_old _ hk1))))
  · exact blk_far (blk_below (one_setCell hk2) h5) (by show b ≠ w1.heap.size; omega) _
  · have hq : ∀ q, q ∈ 86 :: kP.E → q = 86 := by intro q hq; simpa [kP, Kd.scalar] using hq
    refine Kd.R_set (Kd.R_below (Kd.R_set hr hk2 (fun q h e => by have := hq q h; rcases ht with rfl | rfl <;> omega) 0 v2) h5) hk5 (fun q h e => by have := hq q h; omega) 1 _
  · exact Below.setCell (Below.trans (Below.setCell h2 (show base ≤ (⟨b, 0, none⟩ : Addr).block from hbb) v2) (h5.mono (by omega))) (show base ≤ (⟨w1.heap.size, 1, none⟩ : Addr).block from hbase) _

set_option maxHeartbeats 8000000 in
set_option maxRecDepth 100000 in
theorem add_calls (w0 w : World) (b0 m : Nat) (bs : List Nat) (G : List Fil.Nd) (A : Option Addr) (c : Nat) (fs : List ByteArray) (hT : FTree w w0.heap.size bs G) (h0 : bs[0]? = some b0) (hG : Small G m) (hm : m + fs.length ≤ 1000000) (hr : Kd.C Kd.string w0 A fs.length fs) (hB : Below w0.heap.size w0 w) :
    Calls Try.prog 33 #[.pointer (some ⟨b0, 0, none⟩), .slice A fs.length c] w fun e w' => e = .returned (.tuple #[]) ∧ (∃ bs', FTree w' w0.heap.size bs' (Fil.addA G 0 fs) ∧ bs'[0]? = some b0) ∧ Below w0.heap.size w0 w' := by
  have HT := Aside0.mk hT
  have H0 := Aside0.mk h0
  have HG := Aside0.mk hG
  have HR := Aside0.mk hr
  have HB := Aside0.mk hB
  have HM := Aside0.mk hm
  have hfl : fs.length ≤ 1000000 := by omega
  clear hT h0 hG hr hB hm
  go_enter Try.func33, Try.ntmps33
  go_wp2
  go_loopw [4, 15] (fun v4 v15 wr => ∃ (i : Int) (n b : Nat) (bs : List Nat) (Gi : List Fil.Nd), v4 = .pointer (some ⟨b, 0, none⟩) ∧ v15 = .int .i64 i ∧ Aside0 (0 ≤ i ∧ i ≤ fs.length) ∧ Aside0 (bs[0]? = some b0) ∧ Aside0 (bs[n]? = some b) ∧ Aside0 (FTree wr w0.heap.size bs Gi) ∧ Aside0 (Fil.addA Gi n (fs.drop i.toNat) = Fil.addA G 0 fs) ∧ Aside0 (Small Gi (m + i.toNat)) ∧ Aside0 (Below w0.heap.size w0 wr)) (fun _ v15 _ => fs.length - (intOf v15).toNat)
  case atStart => exact ⟨0, 0, b0, bs, G, rfl, rfl, ⟨by omega⟩, H0, H0, HT, ⟨by simp⟩, by simpa using HG, HB⟩
  case round =>
    clear HT HG HB
    obtain ⟨i, n, b, bs, Gi, rfl, rfl, HI, HZ, HN, HT, HA, HS, HB⟩ := hrel
    obtain ⟨hi0, hi1⟩ := HI.out
    by_cases hlt : i < fs.length
    · have hb1 : decide (i < (fs.length : Int)) = true := decide_eq_true hlt
      have g0 : decide ((0 : Int) ≤ i) = true := decide_eq_true hi0
      obtain ⟨ad, e0, hx⟩ := Kd.at_string HR.out i hi0 hlt
      subst e0
      replace hx := (HB.out.cell (World.block_lt_of_cell? w0 _ hx)).trans hx
      obtain ⟨l1, l2, own, l3⟩ := HT.out
      obtain ⟨hbb, v, t, hh, ht, hE⟩ := l3 n b HN.out
      obtain ⟨A1, c1, rfl⟩ := hE.slice
      have hc := one_cell hh rfl
      have HH := Aside0.mk hh
      have HTY := Aside0.mk ht
      have HFO := Aside0.mk (show FTo wr w0.heap.size bs Gi own from ⟨l1, l2, l3⟩)
      clear l1 l2 l3 hh ht
      have hdrop : fs.drop i.toNat = rdOf ByteArray.empty fs i :: fs.drop (i.toNat + 1) := by
        have hn : i.toNat < fs.length := by omega
        rw [List.drop_eq_getElem_cons hn]
        simp [rdOf, hn]
      have HD := Aside0.mk hdrop
      have HE := Aside0.mk hE
      clear hdrop hE
      have hsm : (Fil.node Gi n).length ≤ 1000000 := by have := HS.out n; have := HM.out; omega
      have HSM := Aside0.mk hsm
      clear hsm
      generalize rdOf ByteArray.empty fs i = x at *
      obtain ⟨tl, t1⟩ : ∃ tl, (i == (fs.length : Int) - 1) = tl := ⟨_, rfl⟩
      have HTL := Aside0.mk t1
      go_wp2_with fail
      refine (has_calls wr _ (Fil.node Gi n) w0.heap.size _ bs x HE.out HSM.out).mono ?_
      rintro e w1 ⟨rfl, hb⟩
      have HB1 := Aside0.mk hb
      have HBB := Aside0.mk (HB.out.trans (hb.mono HB.out.size))
      clear hb hx
      rcases hasI_spec (Fil.node Gi n) x 0 with ⟨hn1, hv⟩ | ⟨k, cc, s, hk, hn1, hv⟩
      · rw [hv]
        have HNX := Aside0.mk hn1
        clear hv hn1
        have hh1 : w1.heap[b]? = _ := (HB1.out.block b (blk_lt HH.out)).trans HH.out
        have hbl := blk_lt hh1
        have hne : b ≠ w1.heap.size := by omega
        have hc1 := one_cell hh1 rfl
        have hca : (w1.alloc (.cells #[.string x, .pointer none] 85 (0, 0))).cell? ⟨b, 0, none⟩ = some (.slice A1 (Fil.node Gi n).length c1) := (World.cell?_of_block (a := ⟨b, 0, none⟩) (heap_old _ hbl)).trans hc1
        have HH1 := Aside0.mk hh1
        obtain ⟨ebs, hre, hel, _, hee⟩ := HE.out.below HB1.out
        have HRE := Aside0.mk hre
        have HEL := Aside0.mk hel
        have HEE := Aside0.mk hee
        have HFT := Aside0.mk (FTo.below HFO.out HB1.out)
        have HSZ := Aside0.mk (show w0.heap.size ≤ w1.heap.size from HBB.out.size)
        have HWB := Aside0.mk (below_alloc HBB.out (.cells #[.string x, .pointer none] 85 (0, 0)))
        have HFR := Aside0.mk (show ∀ k, (w1.alloc (.cells #[.string x, .pointer none] 85 (0, 0))).heap.size ≤ k → ¬ k < w1.heap.size from fun k hk => by rw [size_alloc] at hk; omega)
        clear hc hh1 hre hel hee
        go_wp2_with (first | ((with_reducible refine gate_dst (N := 58) rfl ?_); refine Kd.R_append kP (w0 := w0) w0.heap.size rfl (.tmp 56) (.tmp 57) 69 86 (.pointer none) 8 rfl Try.underlying69 info58 rfl Nat.one_pos (by omega) (.slice A1 (Fil.node Gi n).length c1) ebs w1.heap.size [.pointer (some ⟨w1.heap.size, 0, none⟩)] (fun k => (if k < w1.heap.size then own k else n) = n) (fun _ => False) rfl ?aX ?aP (fun _ hk => hk.elim) ?aF ?aO ?aB ?aS ?aL ?_; (case aX => show Value.slice (some ⟨w1.heap.size + 1, 0, none⟩) 1 1 = Value.slice (some ⟨(w1.heap.push _).size, 0, none⟩) 1 1; rw [Array.size_push]); (case aP => exact rfl); (case aF => intro k hk; show (if k < w1.heap.size then own k else n) = n; rw [if_neg (HFR.out k hk)]); (case aO => exact Kd.R_alloc (Kd.R_mono (Kd.R_bound HRE.out) (fun k hk => by show (if k < w1.heap.size then own k else n) = n; rw [if_pos hk.2.2.1]; exact hk.1)) _); (case aB => exact HWB.out); (case aS => exact HWB.out.size); (case aL => have := HEL.out; have := HSM.out; omega); intro v1 w2 hr2 hb2 hg2 _; obtain ⟨A2, c2, rfl⟩ := Kd.R_slice hr2; rw [List.length_append, List.length_singleton] at hr2; rw [List.length_append, List.length_singleton]; have hne2 : some b ≠ (Value.slice A1 (Fil.node Gi n).length c1).ownBlock := Kd.R_ne HRE.out HH1.out (by rcases HTY.out with rfl | rfl <;> decide); have hne3 : some w1.heap.size ≠ (Value.slice A1 (Fil.node Gi n).length c1).ownBlock := Kd.R_ne (Kd.R_alloc HRE.out (.cells #[.string x, .pointer none] 85 (0, 0))) (heap_new w1 _) (by decide); have hk2 := blk_grown (blk_alloc HH1.out _) hg2 hne2; have hk3 := blk_grown (heap_new w1 _) hg2 hne3; have HBK := Aside0.mk hk2; have HEK := Aside0.mk hk3; have HR2 := Aside0.mk hr2; have HB2 := Aside0.mk hb2; have HG2 := Aside0.mk hg2; have hcb := one_cell hk2 rfl; have hfb := blk_frozen hk2 0; clear hr2 hb2 hg2 hk2 hk3 hne2 hne3 hca hc1) | ((with_reducible refine gate_dst (N := 62) rfl ?_); refine box_event rfl (N := 62) rfl (cs := #[.slice none 0 0]) (t := 71) rfl ?_; intro gb hg w5 hbox hb5; have HGB := Aside0.mk hg; have HBX := Aside0.mk hbox; have HB5 := Aside0.mk hb5; have hk5 := blk_below (blk_far HEK.out (p := ⟨b, 0, none⟩) (by show w1.heap.size ≠ b; omega) _) hb5; have HEK5 := Aside0.mk hk5; obtain ⟨p50, p51⟩ := two_cells hk5 rfl rfl; have hf51 := blk_frozen hk5 1; clear hg hbox hb5 hk5) | fail)
        have hadd := FTo.added HFT.out HN.out HH1.out HTY.out HRE.out HEL.out HEE.out HG2.out HR2.out HSZ.out HB2.out HGB.out HBX.out HB5.out
        have HAD := Aside0.mk hadd
        have hres : Fil.addA (Fil.grow Gi n x) Gi.length (fs.drop (i + 1).toNat) = Fil.addA G 0 fs := by
          rw [← HA.out, HD.out, show (i + 1).toNat = i.toNat + 1 by omega]
          simp only [Fil.addA, HNX.out]
        have HRES := Aside0.mk hres
        have hnl : n < Gi.length := by rw [← HFO.out.1]; exact (List.getElem?_eq_some_iff.1 HN.out).1
        have HGR := Aside0.mk (show Small (Fil.grow Gi n x) (m + (i + 1).toNat) by rw [show m + (i + 1).toNat = m + i.toNat + 1 by omega]; exact HS.out.grow n x hnl)
        have HZ2 := Aside0.mk (show (bs ++ [gb])[0]? = some b0 by rw [List.getElem?_append_left (List.getElem?_eq_some_iff.1 HZ.out).1]; exact HZ.out)
        clear hadd hres hnl
        go_roundw
        case rel => exact ⟨i + 1, Gi.length, gb, bs ++ [gb], Fil.grow Gi n x, rfl, rfl, ⟨by omega⟩, HZ2, ⟨HAD.out.1.2⟩, ⟨HAD.out.1.1⟩, HRES, HGR, ⟨HAD.out.2⟩⟩
        case measure => simp [intOf]; omega
      · rw [hv, Int.zero_add]
        clear hv
        have hkl := (List.getElem?_eq_some_iff.1 hk).1
        obtain ⟨ad1, eb, cc', s', ea, he1, hce, d, hd, hh2⟩ := (HE.out.below HB1.out).at (k : Int) (by omega) (by omega)
        subst ea
        rw [Int.toNat_natCast] at he1 hce
        rw [hk] at he1
        obtain ⟨rfl, rfl⟩ : s = s' ∧ cc = cc' := by injection he1 with he1; injection he1 with a b; exact ⟨a, b⟩
        obtain ⟨p0, p1⟩ := two_cells hh2 rfl rfl
        have hc' := (HB1.out.cell (World.block_lt_of_cell? wr _ hc)).trans hc
        obtain ⟨A2, c2, ok2, hc2, hE2⟩ := (HT.out.below HB1.out).at hd
        have HE2 := Aside0.mk hE2
        have HDD := Aside0.mk hd
        have HNX := Aside0.mk hn1
        have g1 : decide ((0 : Int) ≤ (k : Int)) = true := decide_eq_true (by omega)
        have g2 : decide ((k : Int) < ((Fil.node Gi n).length : Int)) = true := decide_eq_true (by omega)
        have g3 : (0 : Int) ≤ (k : Int) := by omega
        have g4 : (k : Int) < ((Fil.node Gi n).length : Int) := by omega
        clear hE2 hd hn1 hk hc hh2 he1 hkl
        go_wp2_with fail
        refine (leaf_calls w1 _ (Fil.node Gi cc) w0.heap.size ok2 bs HE2.out).mono ?_
        rintro e w2 ⟨rfl, hb2⟩
        have HB2 := Aside0.mk (HBB.out.trans (hb2.mono HBB.out.size))
        have HT2 := Aside0.mk ((HT.out.below HB1.out).below hb2)
        clear hb2 hc' hc2 p0 p1 hce
        cases hem : (Fil.node Gi cc).isEmpty with
        | true =>
          have hres : Gi = Fil.addA G 0 fs := by
            rw [← HA.out, HD.out]
            simp only [Fil.addA, HNX.out, hem, if_true]
          have HRES := Aside0.mk hres
          clear hres hem
          go_wp2
          go_end0
          exact ⟨rfl, ⟨bs, by rw [← HRES.out]; exact HT2.out, HZ.out⟩, HB2.out⟩
        | false =>
          cases tl with
          | true =>
            have hil : i = (fs.length : Int) - 1 := by simpa using HTL.out
            have hres : Gi.set cc [] = Fil.addA G 0 fs := by
              rw [← HA.out, HD.out, List.drop_eq_nil_of_le (by omega)]
              simp [Fil.addA, HNX.out, hem]
            have HRES := Aside0.mk hres
            have hcl := FTree.clear HT2.out HDD.out
            have HCL := Aside0.mk hcl
            obtain ⟨_, _, own2, l4⟩ := HT2.out
            obtain ⟨_, v4, t4, hh4, ht4, he4⟩ := l4 cc d HDD.out
            obtain ⟨A4, c4, rfl⟩ := he4.slice
            have hc4 := one_cell hh4 rfl
            have hf4 := blk_frozen hh4 0
            clear hres hem hcl l4 hh4 ht4 he4 hil
            go_wp2
            go_end0
            exact ⟨rfl, ⟨bs, by rw [← HRES.out]; exact HCL.out.1, HZ.out⟩, Below.setCell HB2.out (show w0.heap.size ≤ (⟨d, 0, none⟩ : Addr).block from HCL.out.2) _⟩
          | false =>
            have hil : i ≠ (fs.length : Int) - 1 := by simpa using HTL.out
            have hres : Fil.addA Gi cc (fs.drop (i + 1).toNat) = Fil.addA G 0 fs := by
              rw [← HA.out, HD.out, show (i + 1).toNat = i.toNat + 1 by omega]
              have hne : (fs.drop (i.toNat + 1)).isEmpty = false := by
                rw [List.isEmpty_eq_false_iff]
                intro e
                have := congrArg List.length e
                simp at this
                omega
              simp [Fil.addA, HNX.out, hem, hne]
            have HRES := Aside0.mk hres
            clear hres hem hil
            go_wp2
            go_roundw
            case rel => exact ⟨i + 1, cc, d, bs, Gi, rfl, rfl, ⟨by omega⟩, HZ, HDD, HT2, HRES, ⟨HS.out.up (by omega)⟩, HB2⟩
            case measure => simp [intOf]; omega
    · have hb1 : decide (i < (fs.length : Int)) = false := decide_eq_false hlt
      have hres : Gi = Fil.addA G 0 fs := by
        rw [← HA.out, List.drop_eq_nil_of_le (by omega)]; rfl
      have HRES := Aside0.mk hres
      clear hres
      go_wp2
      go_end0
      exact ⟨rfl, ⟨bs, by rw [← HRES.out]; exact HT.out, HZ.out⟩, HB.out⟩
end Go.Proofs.Ythecfligfhpccaa.P
