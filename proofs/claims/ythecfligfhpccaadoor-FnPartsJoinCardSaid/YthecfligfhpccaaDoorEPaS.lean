/- gse's SplitTextToWords: the walk. -/
import Derived.Test.YthecfligfhpccaaDoorPaPl
import Derived.Deep.DeepCutAuto
set_option linter.unusedVariables false
namespace Go.Proofs.YthecfligfhpccaaDoor.Pa
open Go.RowKit Go.Lib Go.Proofs.YthecfligfhpccaaDoorW.PrintWords Go.Proofs.YthecfligfhpccaaDoor.Gn Go.Proofs.YthecfligfhpccaaDoor.X
theorem infoT : (Tryd.prog.info? 44).map (fun i => (i.zero, i.size, i.bytes)) = some (some (.slice none 0 0), 1, 24) := by kernel_rfl
/-- The value x is a slice of the bytes p. -/
def PRd (w : World) (x : Value) (p : ByteArray) : Prop := ∃ b o c, x = .slice (some ⟨b, o, none⟩) p.size c ∧ RdB w b o p
theorem PRd.chg {T : List Nat} {w w' : World} {x : Value} {p : ByteArray} (h : PRd w x p) (hc : Chg T w w') (hT : ∀ g ∈ T, ∃ cs t fr, w.heap[g]? = some (.cells cs t fr) ∧ t ≠ 5) : PRd w' x p := by
  obtain ⟨b, o, c, h1, h2⟩ := h
  exact ⟨b, o, c, h1, h2.chg hc (fun hb => by obtain ⟨cs, t, fr, h3, h4⟩ := hT b hb; exact h2.ne h3 h4 rfl)⟩
/-- v is a row of slices of these bytes. -/
def TRow (w : World) (v : Value) (ps : List ByteArray) : Prop := ∃ xs : List Value, ORow w 44 v xs ∧ xs.length = ps.length ∧ ∀ i, ∀ h : i < ps.length, ∃ x, xs[i]? = some x ∧ PRd w x ps[i]
theorem TRow.chg {w w' : World} {v : Value} {ps : List ByteArray} (h : TRow w v ps) (hc : Chg [] w w') : TRow w' v ps := by
  obtain ⟨xs, h1, h2, h3⟩ := h
  exact ⟨xs, h1.chg hc (by simp), h2, fun i hi => by obtain ⟨x, e, hx⟩ := h3 i hi; exact ⟨x, e, hx.chg hc (by simp)⟩⟩
theorem TRow.slice {w : World} {v : Value} {ps : List ByteArray} (h : TRow w v ps) : ∃ A c, v = .slice A ps.length c := by
  obtain ⟨xs, h1, h2, _⟩ := h
  obtain ⟨A, c, e, _⟩ := h1.slice
  exact ⟨A, c, by rw [e, h2]⟩
theorem TRow.add {w w' w2 : World} {v v' : Value} {xs : List Value} {ps : List ByteArray} {y : Value} {p : ByteArray} (h : ORow w 44 v xs) (hl : xs.length = ps.length) (hp : ∀ i, ∀ h : i < ps.length, ∃ x, xs[i]? = some x ∧ PRd w x ps[i])
    (hy : PRd w y p) (hr : ORow w' 44 v' (xs ++ [y])) (hc0 : Chg [] w w2) (hc : Chg v.ownBlock.toList w2 w') : TRow w' v' (ps ++ [p]) := by
  have hT : ∀ g ∈ v.ownBlock.toList, ∃ cs t fr, w2.heap[g]? = some (.cells cs t fr) ∧ t ≠ 5 := fun g hg => by
    obtain ⟨_, cur, hcur⟩ := (h.chg hc0 (by simp)).block (g := g) (by simpa using hg)
    exact ⟨cur, _, _, hcur, by decide⟩
  refine ⟨xs ++ [y], hr, by simp [hl], fun i hi => ?_⟩
  by_cases hlt : i < ps.length
  · obtain ⟨x, e, hx⟩ := hp i hlt
    refine ⟨x, by rw [List.getElem?_append_left (by omega)]; exact e, ?_⟩
    rw [List.getElem_append_left hlt]
    exact (hx.chg hc0 (by simp)).chg hc hT
  · have hi2 : i = ps.length := by simp at hi; omega
    subst hi2
    refine ⟨y, by rw [List.getElem?_append_right (by omega), hl]; simp, ?_⟩
    rw [List.getElem_append_right (Nat.le_refl _)]
    simp only [Nat.sub_self, List.getElem_cons_zero]
    exact (hy.chg hc0 (by simp)).chg hc hT
/-- 'append(out, y)' where out is a row of slices. -/
theorem wpList_addT {W : World} {ops : Array Oper} {rest : List Oper} {o : Oper} {a : Act} {Q : Exit → Act → World → Prop} (hgd : o.guard = none) (s x : Operand)
    (ho : o.op = .call { callee := .builtin .append, args := #[s, x], argTypes := #[41, 41] }) (A : Option Addr) (c : Nat) (os : List ByteArray) (m : Nat) (hm : os.length = m) (hs : a.eval s = .slice A m c) (hv : TRow W (.slice A m c) os)
    (y : Value) (p : ByteArray) (hx : a.eval x = .slice (some ⟨W.heap.size, 0, none⟩) 1 1) (hy : PRd W y p) (hl : m ≤ 1000000)
    (h : ∀ A' c' w', TRow w' (.slice A' (m + 1) c') (os ++ [p]) → Chg (Value.slice A m c).ownBlock.toList W w' → (∀ g, (Value.slice A' (m + 1) c').ownBlock = some g → (Value.slice A m c).ownBlock = some g ∨ W.heap.size ≤ g) → wpList Tryd.prog ops Q rest (a.put o.dst (.slice A' (m + 1) c')) w') :
    wpList Tryd.prog ops Q (o :: rest) a (W.alloc (.cells #[y] 44)) := by
  obtain ⟨xs, h1, h2, h3⟩ := hv
  have hy1 : y.oneCell' = true := by obtain ⟨b, off, cc, e, _⟩ := hy; rw [e]; rfl
  refine wpList_append1 hgd s x 41 ho 44 (.slice none 0 0) 24 Tryd.underlying41 infoT rfl (.slice A m c) xs hs (h1.chg ((Chg.refl [] W).alloc _) (by simp)) W.heap.size y hx (by simp) hy1 (by omega) (by unfold maxLen; omega) ?_
  intro v' w' hr hc hown
  have hT := TRow.add h1 h2 h3 hy hr ((Chg.refl [] W).alloc _) hc
  obtain ⟨A', c', e⟩ := hT.slice
  have e2 : v' = .slice A' (m + 1) c' := by rw [e]; simp [hm]
  subst e2
  refine h A' c' w' hT ⟨hc.os, hc.tape, hc.output, by have := hc.size; rw [size_alloc] at this; omega, fun k hk hs => (hc.block k (by rw [size_alloc]; omega) hs).trans (Below.heap_alloc W _ k hk)⟩ (fun g hg => ?_)
  rcases hown with q | q
  · exact .inl (by rw [← q]; exact hg)
  · rw [hg] at q
    have : g = _ := (by injection q)
    rw [this, size_alloc]
    exact .inr (by omega)
def SpPost (s : ByteArray) (o : Opt) (w : World) (e : Ending) (w' : World) : Prop := ∃ v, e = .returned v ∧ TRow w' v (parts s o) ∧ Chg [] w w'
theorem num_calls (r : Int) (w : World) (hlo : -2147483648 ≤ r) (hhi : r ≤ 2147483647) (hT : Tabs w) : Calls Tryd.prog 26 #[.int .i32 r] w fun e w' => e = .returned (.bool (isNumberU r)) ∧ Chg [] w w' :=
  (Tryd.unicode_IsNumber_any numberT r w hlo hhi hT.props hT.number numberT_ok).mono fun e w' ⟨h1, h2⟩ => ⟨h1, Chg.below h2⟩
theorem let_calls (r : Int) (w : World) (hlo : -2147483648 ≤ r) (hhi : r ≤ 2147483647) (hT : Tabs w) : Calls Tryd.prog 27 #[.int .i32 r] w fun e w' => e = .returned (.bool (isLetterU r)) ∧ Chg [] w w' :=
  (Tryd.unicode_IsLetter_all r w hlo hhi hT.props hT.letter).mono fun e w' ⟨h1, h2⟩ => ⟨h1, Chg.below h2⟩
theorem dec_calls (w : World) (b c : Nat) (s : ByteArray) (p : Nat) (hp : p < s.size) (h : RdB w b 0 s) (hT : Tabs w) :
    Calls Tryd.prog 25 #[.slice (some ⟨b, p, none⟩) (s.size - p) c] w fun e w' => e = .returned (.tuple #[.int .i32 ((sg s p).1 : Int), .int .i64 ((sg s p).2 : Int)]) ∧ Chg [] w w' := by
  have hsz : (s.extract p s.size).size = s.size - p := by rw [ByteArray.size_extract]; omega
  have h1 := Any7.utf8_DecodeRune Tryd.lays732 (s.extract p s.size) b p c w hT.u8 (fun j hj => by
    rw [hsz] at hj
    have := h.cell (p + j) (by omega)
    rw [Nat.zero_add] at this
    rw [this, get_ext]
    rfl)
  rw [hsz] at h1
  exact h1.mono fun e w' ⟨h1, h2⟩ => ⟨h1, Chg.below h2⟩
theorem low_at (w W : World) (bt : Nat) (s : ByteArray) (hs : RdB w bt 0 s) (hl : s.size ≤ 1000) (hc : Chg [] w W) (i n c : Nat) (h2 : i + n ≤ s.size) :
    Calls Tryd.prog 28 #[.slice (some ⟨bt, i, none⟩) n c] W fun e w' => ∃ b, e = .returned (.slice (some ⟨b, 0, none⟩) n n) ∧ PRd w' (.slice (some ⟨b, 0, none⟩) n n) (low (s.extract i (i + n))) ∧ Chg [] W w' := by
  have hz : (s.extract i (i + n)).size = n := by rw [ByteArray.size_extract]; omega
  have h := toLow_calls W bt i c (s.extract i (i + n)) (by have := (hs.chg hc (by simp)).cut i (i + n) (by omega) h2; rwa [Nat.zero_add] at this) (by omega)
  rw [hz] at h
  refine h.mono ?_
  rintro e w' ⟨b, rfl, h1, h2, h3⟩
  rw [hz]
  exact ⟨b, rfl, ⟨b, 0, n, by rw [low_size, hz], h1⟩, h3⟩
theorem cut_at (w W : World) (bt : Nat) (s : ByteArray) (hs : RdB w bt 0 s) (hc : Chg [] w W) (i n c : Nat) (h2 : i + n ≤ s.size) : PRd W (.slice (some ⟨bt, i, none⟩) n c) (s.extract i (i + n)) := by
  have hz : (s.extract i (i + n)).size = n := by rw [ByteArray.size_extract]; omega
  exact ⟨bt, i, c, by rw [hz], by have := (hs.chg hc (by simp)).cut i (i + n) (by omega) h2; rwa [Nat.zero_add] at this⟩
set_option maxHeartbeats 4000000 in
set_option maxRecDepth 100000 in
theorem split_calls (w : World) (bs bt cap : Nat) (s : ByteArray) (o : Opt) (hseg : w.heap[bs]? = some (.cells #[.bool o.each, .bool o.alpha, .bool o.num] 40 (0, 0))) (hs : RdB w bt 0 s) (hcap : s.size ≤ cap) (hl : s.size ≤ 1000) (hT : Tabs w) :
    Calls Tryd.prog 18 #[.pointer (some ⟨bs, 0, none⟩), .slice (some ⟨bt, 0, none⟩) s.size cap] w (SpPost s o w) := by
  have HSEG := Aside0.mk hseg
  have HS := Aside0.mk hs
  have HT := Aside0.mk hT
  have HLT : Aside0 (bs < w.heap.size) := ⟨(Array.getElem?_eq_some_iff.1 hseg).1⟩
  have HM3 : Aside0 (∀ w3, w3 = w.alloc (.cells (madeCells #[.slice none 0 0] (s.size / 3 * 1)) 44) → TRow w3 (.slice (some ⟨w.heap.size, 0, none⟩) 0 (s.size / 3)) []) := ⟨fun w3 e => ⟨[], by rw [e]; exact ORow.of (xs := []) (heap_alloc_new _ _) (Nat.zero_le _) (by unfold maxLen; omega) (by simp [madeCells]) (by simp), rfl, fun i hi => by simp at hi⟩⟩
  clear hseg hs hT
  go_enter Tryd.func18, Tryd.ntmps18
  go_wp2_with (at_make; refine wpList_make rfl _ _ _ rfl 44 (.slice none 0 0) 1 24 Tryd.underlying41 infoT .i64 .i64 0 ((s.size : Int) / 3) rfl rfl (by omega) (by omega) (by omega) (by omega) ?_; intro w3 e3; rw [show ((s.size : Int) / 3).toNat = s.size / 3 by omega] at e3 ⊢; have HR3 := Aside0.mk (HM3.out w3 e3); have HC3 : Aside0 (Chg [] w w3) := ⟨by rw [e3]; exact (Chg.refl [] w).alloc _⟩; clear e3 HM3)
  go_loopw [5, 6, 7, 8] (fun v5 v6 v7 v8 wr => ∃ (cur st k : Nat) (run : Bool) (os : List ByteArray), v6 = .int .i64 cur ∧ v7 = .int .i64 st ∧ v8 = .bool run ∧ Aside0 (cur ≤ s.size ∧ st ≤ cur ∧ s.size < cur + k ∧ os.length ≤ 2 * cur ∧ (run = true → cur = 0 ∨ st < cur)) ∧ Aside0 (TRow wr v5 os) ∧ Aside0 (∀ g, v5.ownBlock = some g → w.heap.size ≤ g) ∧ Aside0 (Chg [] w wr) ∧ Aside0 (os ++ go s o k cur st run = parts s o)) (fun _ v6 _ _ _ => s.size - (intOf v6).toNat)
  case atStart => exact ⟨0, 0, s.size + 1, true, [], rfl, rfl, rfl, ⟨by simp⟩, HR3, ⟨fun g hg => by have : w.heap.size = g := (by injection hg); omega⟩, HC3, ⟨by rw [List.nil_append]; rfl⟩⟩
  case round =>
    clear HR3 HC3
    obtain ⟨cur, st, k, run, os, rfl, rfl, rfl, HI, HV, HG, HC, HP⟩ := hrel
    obtain ⟨hi1, hi2, hi3, hi4, hi5⟩ := HI.out
    have HI5 := Aside0.mk hi5
    clear hi5
    have HTW := Aside0.mk (HT.out.below (HC.out.toBelow (Nat.le_refl _) (by simp)))
    have HSW := Aside0.mk (HS.out.chg HC.out (by simp))
    have HGW : Aside0 (wr.heap[bs]? = some (.cells #[.bool o.each, .bool o.alpha, .bool o.num] 40 (0, 0))) := ⟨(HC.out.block bs HLT.out (by simp)).trans HSEG.out⟩
    by_cases hlt : cur < s.size
    · obtain ⟨k, rfl⟩ : ∃ k', k = k' + 1 := ⟨k - 1, by omega⟩
      have hd1 := sg_pos s cur hlt
      have hd2 := sg_le s cur hlt
      have hd3 := sg_rune s cur hlt
      have hdec := dec_calls wr bt (cap - cur) s cur hlt HSW.out HTW.out
      obtain ⟨x, hx⟩ : ∃ x, x = sg s cur := ⟨_, rfl⟩
      obtain ⟨q, hq⟩ : ∃ q, q = stk o x := ⟨_, rfl⟩
      have hgo : go s o (k + 1) cur st run = (if q then
        (if o.each then low (s.extract cur (cur + x.2)) :: go s o k (cur + x.2) (if run then st else cur) true
         else go s o k (cur + x.2) (if run then st else cur) true)
       else (if run && (decide (cur ≠ 0) && !o.each) then low (s.extract st cur) :: s.extract cur (cur + x.2) :: go s o k (cur + x.2) st false
         else s.extract cur (cur + x.2) :: go s o k (cur + x.2) st false)) := by
        rw [hq, hx]
        show (if cur < s.size then _ else _) = _
        rw [if_pos hlt]
      rw [← hx] at hd1 hd2 hd3 hdec
      obtain ⟨r, n⟩ := x
      dsimp only at hd1 hd2 hd3 hdec hgo
      unfold stk at hq
      dsimp only at hq
      have HDEC := Aside0.mk hdec
      have HGO := Aside0.mk hgo
      have HQ := Aside0.mk hq
      have hnum := fun W (h : Tabs W) => num_calls (r : Int) W (by omega) (by omega) h
      have hlet := fun W (h : Tabs W) => let_calls (r : Int) W (by omega) (by omega) h
      obtain ⟨nb, hnb⟩ : ∃ nb, nb = isNumberU (r : Int) := ⟨_, rfl⟩
      obtain ⟨lb, hlb⟩ : ∃ lb, lb = isLetterU (r : Int) := ⟨_, rfl⟩
      rw [← hnb] at hnum
      rw [← hlb] at hlet
      rw [← hnb, ← hlb] at hq
      have HQ := Aside0.mk hq
      have HNUM := Aside0.mk hnum
      have HLET := Aside0.mk hlet
      have k1 : decide ((cur : Int) < (s.size : Int)) = true := decide_eq_true (by omega)
      have k2 : decide (cur < s.size) = true := decide_eq_true hlt
      have k3 : ¬ cap = cur := by omega
      have k4 : (cur : Int) ≤ (s.size : Int) := by omega
      clear hdec hgo hq hnum hlet hnb hlb hx
      go_upto_region 6 with (go_at_call 25; refine HDEC.out.mono ?_; rintro e w1 ⟨rfl, hd⟩; have HD := Aside0.mk hd; clear hd HDEC)
      have HGW1 : Aside0 (w1.heap[bs]? = some (.cells #[.bool o.each, .bool o.alpha, .bool o.num] 40 (0, 0))) := ⟨(HD.out.block bs (by have := HC.out.size; have := HLT.out; omega) (by simp)).trans HGW.out⟩
      have HT1 := Aside0.mk (HTW.out.below (HD.out.toBelow (Nat.le_refl _) (by simp)))
      go_cut [11] (fun v11 wx => v11 = .bool (nb && !o.num) ∧ Aside0 (Chg [] w1 wx))
      case first =>
        cases nb with
        | false =>
          go_wp2_with (go_at_call 26; refine (HNUM.out _ HT1.out).mono ?_; rintro e w2 ⟨rfl, hd⟩; have HD2 := Aside0.mk hd; clear hd)
          go_meet
          exact ⟨rfl, HD2⟩
        | true =>
          go_wp2_with (go_at_call 26; refine (HNUM.out _ HT1.out).mono ?_; rintro e w2 ⟨rfl, hd⟩; have HD2 := Aside0.mk hd; have hseg : w2.heap[bs]? = some (.cells #[.bool o.each, .bool o.alpha, .bool o.num] 40 (0, 0)) := (hd.block bs (by have := HC.out.size; have := HLT.out; have := HD.out.size; omega) (by simp)).trans HGW1.out; have cc : w2.cell? ⟨bs, 2, none⟩ = some (.bool o.num) := (by simp [World.cell?, hseg]); clear hd hseg)
          go_meet
          exact ⟨by simp, HD2⟩
      case rest =>
        obtain ⟨rfl, HD2⟩ := hcut
        have HGW2 : Aside0 (wc.heap[bs]? = some (.cells #[.bool o.each, .bool o.alpha, .bool o.num] 40 (0, 0))) := ⟨(HD2.out.block bs (by have := HC.out.size; have := HLT.out; have := HD.out.size; omega) (by simp)).trans HGW1.out⟩
        have HT2 := Aside0.mk (HT1.out.below (HD2.out.toBelow (Nat.le_refl _) (by simp)))
        obtain ⟨wd, rfl⟩ : ∃ wd, wd = wc := ⟨_, rfl⟩
        go_upto_region 7 with fail
        go_cut [12] (fun v12 wx => v12 = .bool (lb && !o.alpha) ∧ Aside0 (Chg [] wd wx))
        case first =>
          cases lb with
          | false =>
            go_wp2_with (go_at_call 27; refine (HLET.out _ HT2.out).mono ?_; rintro e w2 ⟨rfl, hd⟩; have HD3 := Aside0.mk hd; clear hd)
            go_meet
            exact ⟨rfl, HD3⟩
          | true =>
            go_wp2_with (go_at_call 27; refine (HLET.out _ HT2.out).mono ?_; rintro e w2 ⟨rfl, hd⟩; have HD3 := Aside0.mk hd; have hseg : w2.heap[bs]? = some (.cells #[.bool o.each, .bool o.alpha, .bool o.num] 40 (0, 0)) := (hd.block bs (by have := HC.out.size; have := HLT.out; have := HD.out.size; have := HD2.out.size; omega) (by simp)).trans HGW2.out; have cc : w2.cell? ⟨bs, 1, none⟩ = some (.bool o.alpha) := (by simp [World.cell?, hseg]); clear hd hseg)
            go_meet
            exact ⟨by simp, HD3⟩
        case rest =>
          obtain ⟨rfl, HD3⟩ := hcut
          have HCX : Aside0 (Chg [] wr wc) := ⟨(HD.out.trans HD2.out).trans HD3.out⟩
          clear HD HD2 HD3 HGW1 HGW2 HT1 HT2 HNUM HLET
          obtain ⟨wx, rfl⟩ : ∃ wx, wx = wc := ⟨_, rfl⟩
          obtain ⟨b1, hb1⟩ : ∃ b1, b1 = (nb && !o.num) := ⟨_, rfl⟩
          obtain ⟨b2, hb2⟩ : ∃ b2, b2 = (lb && !o.alpha) := ⟨_, rfl⟩
          have HQ2 : Aside0 (q = (decide (n ≤ 2) && (b2 || b1))) := ⟨by rw [hb1, hb2]; exact HQ.out⟩
          rw [← hb1, ← hb2]
          clear hb1 hb2 HQ
          go_upto_region 8 with fail
          go_cut [53] (fun v53 wy => v53 = .bool q ∧ wx = wy)
          case first =>
            have hqq := HQ2.out
            clear HQ2
            subst hqq
            rcases (show n ≤ 2 ∨ 2 < n by omega) with hn | hn
            · have q1 : decide ((n : Int) ≤ 2) = true := decide_eq_true (by omega)
              have q2 : decide (n ≤ 2) = true := decide_eq_true hn
              cases b2 <;> cases b1
              all_goals go_wp2_with fail
              all_goals go_meet
              all_goals exact ⟨by simp [q2], rfl⟩
            · have q1 : decide ((n : Int) ≤ 2) = false := decide_eq_false (by omega)
              have q2 : decide (n ≤ 2) = false := decide_eq_false (by omega)
              go_wp2_with fail
              go_meet
              exact ⟨by simp [q2], rfl⟩
          case rest =>
            obtain ⟨rfl, rfl⟩ := hcut
            clear HQ2
            have HCW : Aside0 (Chg [] w wx) := ⟨HC.out.trans HCX.out⟩
            have hvx := HV.out.chg HCX.out
            obtain ⟨A5, c5, e5⟩ := hvx.slice
            obtain ⟨M, hM⟩ : ∃ M, os.length = M := ⟨_, rfl⟩
            rw [hM] at e5
            have hMl : M ≤ 2000 := by omega
            subst e5
            have HM := Aside0.mk hM
            have HVX := Aside0.mk hvx
            obtain ⟨ev, hev⟩ : ∃ ev, ev = o.each := ⟨_, rfl⟩
            have hseg : wx.heap[bs]? = some (.cells #[.bool o.each, .bool o.alpha, .bool o.num] 40 (0, 0)) := (HCX.out.block bs (by have := HC.out.size; have := HLT.out; omega) (by simp)).trans HGW.out
            have cc : wx.cell? ⟨bs, 0, none⟩ = some (.bool ev) := by rw [hev]; simp [World.cell?, hseg]
            have HGO2 := HGO.out
            rw [← hev] at HGO2
            have HGO := Aside0.mk HGO2
            have HPP := HP.out
            rw [HGO2] at HPP
            have HP := Aside0.mk HPP
            clear hev hseg HGO2 HPP hvx hM HV HTW HSW HGW HGO k1 k2
            have j1 : (cur : Int) ≤ (cur : Int) + (n : Int) := by omega
            have j2 : (cur : Int) + (n : Int) ≤ (cap : Int) := by omega
            cases q with
            | true =>
              cases ev with
              | true =>
                cases run with
                | true =>
                  go_wp2_with (first | (go_at_call 28; refine (low_at w wx bt s HS.out hl HCW.out cur n _ (by omega)).mono ?_; rintro e w4 ⟨b4, rfl, hp4, hc4⟩; have HP4 := Aside0.mk hp4; have HC4 : Aside0 (Chg [] w w4) := ⟨HCW.out.trans hc4⟩; have HV4 := Aside0.mk (HVX.out.chg hc4); clear hp4 hc4) | (at_builtin; refine wpList_addT (W := w4) rfl _ _ rfl A5 c5 os M HM.out rfl HV4.out (.slice (some ⟨b4, 0, none⟩) n n) _ rfl HP4.out (by omega) ?_; intro A6 c6 w6 hv6 hc6 hg6; have HV6 := Aside0.mk hv6; have HC6 : Aside0 (Chg [] w w6) := ⟨HC4.out.above hc6 (fun i hi => .inr (HG.out i (by simpa using hi)))⟩; have HG6 : Aside0 (∀ g, (Value.slice A6 (M + 1) c6).ownBlock = some g → w.heap.size ≤ g) := ⟨fun g hg => by rcases hg6 g hg with q | q; exact HG.out g q; exact Nat.le_trans HC4.out.size q⟩; clear hv6 hc6 hg6))
                  go_roundw
                  case rel => exact ⟨cur + n, st, k, true, os ++ [low (s.extract cur (cur + n))], by go_num, rfl, rfl, ⟨by have := HM.out; exact ⟨by omega, by omega, by omega, by simp; omega, fun _ => by omega⟩⟩, HV6, HG6, HC6, ⟨by have := HP.out; simpa using this⟩⟩
                  case measure => simp [intOf]; omega
                | false =>
                  go_wp2_with (first | (go_at_call 28; refine (low_at w wx bt s HS.out hl HCW.out cur n _ (by omega)).mono ?_; rintro e w4 ⟨b4, rfl, hp4, hc4⟩; have HP4 := Aside0.mk hp4; have HC4 : Aside0 (Chg [] w w4) := ⟨HCW.out.trans hc4⟩; have HV4 := Aside0.mk (HVX.out.chg hc4); clear hp4 hc4) | (at_builtin; refine wpList_addT (W := w4) rfl _ _ rfl A5 c5 os M HM.out rfl HV4.out (.slice (some ⟨b4, 0, none⟩) n n) _ rfl HP4.out (by omega) ?_; intro A6 c6 w6 hv6 hc6 hg6; have HV6 := Aside0.mk hv6; have HC6 : Aside0 (Chg [] w w6) := ⟨HC4.out.above hc6 (fun i hi => .inr (HG.out i (by simpa using hi)))⟩; have HG6 : Aside0 (∀ g, (Value.slice A6 (M + 1) c6).ownBlock = some g → w.heap.size ≤ g) := ⟨fun g hg => by rcases hg6 g hg with q | q; exact HG.out g q; exact Nat.le_trans HC4.out.size q⟩; clear hv6 hc6 hg6))
                  go_roundw
                  case rel => exact ⟨cur + n, cur, k, true, os ++ [low (s.extract cur (cur + n))], by go_num, rfl, rfl, ⟨by have := HM.out; exact ⟨by omega, by omega, by omega, by simp; omega, fun _ => by omega⟩⟩, HV6, HG6, HC6, ⟨by have := HP.out; simpa using this⟩⟩
                  case measure => simp [intOf]; omega
              | false =>
                cases run with
                | true =>
                  go_wp2_with fail
                  go_roundw
                  case rel => exact ⟨cur + n, st, k, true, os, by go_num, rfl, rfl, ⟨by have := HM.out; exact ⟨by omega, by omega, by omega, by omega, fun _ => by omega⟩⟩, HVX, HG, HCW, ⟨by have := HP.out; simpa using this⟩⟩
                  case measure => simp [intOf]; omega
                | false =>
                  go_wp2_with fail
                  go_roundw
                  case rel => exact ⟨cur + n, cur, k, true, os, by go_num, rfl, rfl, ⟨by have := HM.out; exact ⟨by omega, by omega, by omega, by omega, fun _ => by omega⟩⟩, HVX, HG, HCW, ⟨by have := HP.out; simpa using this⟩⟩
                  case measure => simp [intOf]; omega
            | false =>
              cases run with
              | false =>
                go_wp2_with (first | (at_builtin; refine wpList_addT (W := wx) rfl _ _ rfl A5 c5 os M HM.out rfl HVX.out (.slice (some ⟨bt, cur, none⟩) n (cap - cur)) _ rfl (cut_at w wx bt s HS.out HCW.out cur n _ (by omega)) (by omega) ?_; intro A6 c6 w6 hv6 hc6 hg6; have HV6 := Aside0.mk hv6; have HC6 : Aside0 (Chg [] w w6) := ⟨HCW.out.above hc6 (fun i hi => .inr (HG.out i (by simpa using hi)))⟩; have HG6 : Aside0 (∀ g, (Value.slice A6 (M + 1) c6).ownBlock = some g → w.heap.size ≤ g) := ⟨fun g hg => by rcases hg6 g hg with q | q; exact HG.out g q; exact Nat.le_trans HCW.out.size q⟩; clear hv6 hc6 hg6))
                go_roundw
                case rel => exact ⟨cur + n, st, k, false, os ++ [s.extract cur (cur + n)], by go_num, rfl, rfl, ⟨by have := HM.out; exact ⟨by omega, by omega, by omega, by simp; omega, fun h => by cases h⟩⟩, HV6, HG6, HC6, ⟨by have := HP.out; simpa using this⟩⟩
                case measure => simp [intOf]; omega
              | true =>
                rcases (show cur = 0 ∨ cur ≠ 0 by omega) with h0 | h0
                · have n1 : ((cur : Int) != 0) = false := bne_eq_false_iff_eq.2 (by omega)
                  have n2 : (cur != 0) = false := bne_eq_false_iff_eq.2 (by omega)
                  have HP0 : Aside0 (os ++ s.extract cur (cur + n) :: go s o k (cur + n) st false = parts s o) := ⟨by have := HP.out; simpa [h0] using this⟩
                  clear h0
                  go_wp2_with (first | (at_builtin; refine wpList_addT (W := wx) rfl _ _ rfl A5 c5 os M HM.out rfl HVX.out (.slice (some ⟨bt, cur, none⟩) n (cap - cur)) _ rfl (cut_at w wx bt s HS.out HCW.out cur n _ (by omega)) (by omega) ?_; intro A6 c6 w6 hv6 hc6 hg6; have HV6 := Aside0.mk hv6; have HC6 : Aside0 (Chg [] w w6) := ⟨HCW.out.above hc6 (fun i hi => .inr (HG.out i (by simpa using hi)))⟩; have HG6 : Aside0 (∀ g, (Value.slice A6 (M + 1) c6).ownBlock = some g → w.heap.size ≤ g) := ⟨fun g hg => by rcases hg6 g hg with q | q; exact HG.out g q; exact Nat.le_trans HCW.out.size q⟩; clear hv6 hc6 hg6))
                  go_roundw
                  case rel => exact ⟨cur + n, st, k, false, os ++ [s.extract cur (cur + n)], by go_num, rfl, rfl, ⟨by have := HM.out; exact ⟨by omega, by omega, by omega, by simp; omega, fun h => by cases h⟩⟩, HV6, HG6, HC6, ⟨by have := HP0.out; simpa using this⟩⟩
                  case measure => simp [intOf]; omega
                · have n1 : ((cur : Int) != 0) = true := bne_iff_ne.2 (by omega)
                  have n2 : (cur != 0) = true := bne_iff_ne.2 h0
                  cases ev with
                  | true =>
                    go_wp2_with (first | (at_builtin; refine wpList_addT (W := wx) rfl _ _ rfl A5 c5 os M HM.out rfl HVX.out (.slice (some ⟨bt, cur, none⟩) n (cap - cur)) _ rfl (cut_at w wx bt s HS.out HCW.out cur n _ (by omega)) (by omega) ?_; intro A6 c6 w6 hv6 hc6 hg6; have HV6 := Aside0.mk hv6; have HC6 : Aside0 (Chg [] w w6) := ⟨HCW.out.above hc6 (fun i hi => .inr (HG.out i (by simpa using hi)))⟩; have HG6 : Aside0 (∀ g, (Value.slice A6 (M + 1) c6).ownBlock = some g → w.heap.size ≤ g) := ⟨fun g hg => by rcases hg6 g hg with q | q; exact HG.out g q; exact Nat.le_trans HCW.out.size q⟩; clear hv6 hc6 hg6))
                    go_roundw
                    case rel => exact ⟨cur + n, st, k, false, os ++ [s.extract cur (cur + n)], by go_num, rfl, rfl, ⟨by have := HM.out; exact ⟨by omega, by omega, by omega, by simp; omega, fun h => by cases h⟩⟩, HV6, HG6, HC6, ⟨by have := HP.out; simpa using this⟩⟩
                    case measure => simp [intOf]; omega
                  | false =>
                    have HP0 : Aside0 (os ++ low (s.extract st cur) :: s.extract cur (cur + n) :: go s o k (cur + n) st false = parts s o) := ⟨by have := HP.out; simpa [h0] using this⟩
                    have j3 : ¬ cap = st := by omega
                    have j4 : (st : Int) ≤ (cur : Int) := by omega
                    have j5 : (cur : Int) ≤ (cap : Int) := by omega
                    go_wp2_with (first | (go_at_call 28; refine (low_at w wx bt s HS.out hl HCW.out st (cur - st) _ (by omega)).mono ?_; rintro e w4 ⟨b4, rfl, hp4, hc4⟩; rw [show st + (cur - st) = cur by omega] at hp4; have HP4 := Aside0.mk hp4; have HC4 : Aside0 (Chg [] w w4) := ⟨HCW.out.trans hc4⟩; have HV4 := Aside0.mk (HVX.out.chg hc4); clear hp4 hc4) | (at_builtin; refine wpList_addT (W := w4) rfl _ _ rfl A5 c5 os M HM.out rfl HV4.out (.slice (some ⟨b4, 0, none⟩) (cur - st) (cur - st)) _ rfl HP4.out (by omega) ?_; intro A6 c6 w6 hv6 hc6 hg6; have HV6 := Aside0.mk hv6; have HC6 : Aside0 (Chg [] w w6) := ⟨HC4.out.above hc6 (fun i hi => .inr (HG.out i (by simpa using hi)))⟩; have HG6 : Aside0 (∀ g, (Value.slice A6 (M + 1) c6).ownBlock = some g → w.heap.size ≤ g) := ⟨fun g hg => by rcases hg6 g hg with q | q; exact HG.out g q; exact Nat.le_trans HC4.out.size q⟩; clear hv6 hc6 hg6) | (at_builtin; refine wpList_addT (W := w6) rfl _ _ rfl A6 c6 (os ++ [low (s.extract st cur)]) (M + 1) (by simp [HM.out]) rfl HV6.out (.slice (some ⟨bt, cur, none⟩) n (cap - cur)) _ rfl (cut_at w w6 bt s HS.out HC6.out cur n _ (by omega)) (by omega) ?_; intro A8 c8 w8 hv8 hc8 hg8; have HV8 := Aside0.mk hv8; have HC8 : Aside0 (Chg [] w w8) := ⟨HC6.out.above hc8 (fun i hi => .inr (HG6.out i (by simpa using hi)))⟩; have HG8 : Aside0 (∀ g, (Value.slice A8 ((M + 1) + 1) c8).ownBlock = some g → w.heap.size ≤ g) := ⟨fun g hg => by rcases hg8 g hg with q | q; exact HG6.out g q; exact Nat.le_trans HC6.out.size q⟩; clear hv8 hc8 hg8))
                    go_roundw
                    case rel => exact ⟨cur + n, st, k, false, os ++ [low (s.extract st cur)] ++ [s.extract cur (cur + n)], by go_num, rfl, rfl, ⟨by have := HM.out; exact ⟨by omega, by omega, by omega, by simp; omega, fun h => by cases h⟩⟩, HV8, HG8, HC8, ⟨by have := HP0.out; simpa using this⟩⟩
                    case measure => simp [intOf]; omega
    · obtain ⟨k, rfl⟩ : ∃ k', k = k' + 1 := ⟨k - 1, by omega⟩
      have hgo : go s o (k + 1) cur st run = (if run && !o.each then (if cur ≠ 0 then [low (s.extract st cur)] else []) else []) := by
        show (if cur < s.size then _ else _) = _
        rw [if_neg hlt]
      have HPP := HP.out
      rw [hgo] at HPP
      obtain ⟨A5, c5, e5⟩ := HV.out.slice
      obtain ⟨M, hM⟩ : ∃ M, os.length = M := ⟨_, rfl⟩
      rw [hM] at e5
      have hMl : M ≤ 2000 := by omega
      subst e5
      have HM := Aside0.mk hM
      obtain ⟨ev, hev⟩ : ∃ ev, ev = o.each := ⟨_, rfl⟩
      have hseg := HGW.out
      have cc : wr.cell? ⟨bs, 0, none⟩ = some (.bool ev) := by rw [hev]; simp [World.cell?, hseg]
      rw [← hev] at HPP
      have HP := Aside0.mk HPP
      have k1 : decide ((cur : Int) < (s.size : Int)) = false := decide_eq_false (by omega)
      have k2 : decide (cur < s.size) = false := decide_eq_false hlt
      clear hgo HPP hM hev hseg HTW HSW HGW
      cases run with
      | false =>
        have HP0 : Aside0 (os = parts s o) := ⟨by have := HP.out; simpa using this⟩
        go_wp2_with fail
        go_ret
        exact ⟨_, rfl, by rw [← HP0.out]; exact HV.out, HC.out⟩
      | true =>
        cases ev with
        | true =>
          have HP0 : Aside0 (os = parts s o) := ⟨by have := HP.out; simpa using this⟩
          go_wp2_with fail
          go_ret
          exact ⟨_, rfl, by rw [← HP0.out]; exact HV.out, HC.out⟩
        | false =>
          rcases (show cur = 0 ∨ cur ≠ 0 by omega) with h0 | h0
          · have n1 : ((cur : Int) != 0) = false := bne_eq_false_iff_eq.2 (by omega)
            have n2 : (cur != 0) = false := bne_eq_false_iff_eq.2 (by omega)
            have HP0 : Aside0 (os = parts s o) := ⟨by have := HP.out; simpa [h0] using this⟩
            clear h0
            go_wp2_with fail
            go_ret
            exact ⟨_, rfl, by rw [← HP0.out]; exact HV.out, HC.out⟩
          · have n1 : ((cur : Int) != 0) = true := bne_iff_ne.2 (by omega)
            have n2 : (cur != 0) = true := bne_iff_ne.2 h0
            have HP0 : Aside0 (os ++ [low (s.extract st cur)] = parts s o) := ⟨by have := HP.out; simpa [h0] using this⟩
            have j3 : ¬ cap = st := by have := HI5.out rfl; omega
            have j4 : (st : Int) ≤ (cur : Int) := by omega
            have j5 : (cur : Int) ≤ (cap : Int) := by omega
            go_wp2_with (first | (go_at_call 28; refine (low_at w wr bt s HS.out hl HC.out st (cur - st) _ (by omega)).mono ?_; rintro e w4 ⟨b4, rfl, hp4, hc4⟩; rw [show st + (cur - st) = cur by omega] at hp4; have HP4 := Aside0.mk hp4; have HC4 : Aside0 (Chg [] w w4) := ⟨HC.out.trans hc4⟩; have HV4 := Aside0.mk (HV.out.chg hc4); clear hp4 hc4) | (at_builtin; refine wpList_addT (W := w4) rfl _ _ rfl A5 c5 os M HM.out rfl HV4.out (.slice (some ⟨b4, 0, none⟩) (cur - st) (cur - st)) _ rfl HP4.out (by omega) ?_; intro A6 c6 w6 hv6 hc6 hg6; have HV6 := Aside0.mk hv6; have HC6 : Aside0 (Chg [] w w6) := ⟨HC4.out.above hc6 (fun i hi => .inr (HG.out i (by simpa using hi)))⟩; have HG6 : Aside0 (∀ g, (Value.slice A6 (M + 1) c6).ownBlock = some g → w.heap.size ≤ g) := ⟨fun g hg => by rcases hg6 g hg with q | q; exact HG.out g q; exact Nat.le_trans HC4.out.size q⟩; clear hv6 hc6 hg6))
            go_ret
            exact ⟨_, rfl, by rw [← HP0.out]; exact HV6.out, HC6.out⟩
end Go.Proofs.YthecfligfhpccaaDoor.Pa
