/- 'append(s, x...)' where x is a row that is read, in a region too. spec.PlacesSorted: the walk. Places, plain: all places of a part; where none runs into the next they are those that FindAllOccs tells. What the map holds at the end. Places, plain: the reference's sorted parts, and its places. -/
import Derived.Test.YthecfligfhpccaaDoorQPl
import Derived.Deep.RegionLaw
import Derived.Maps.AppendAt
import Derived.Deep.DeepCutAuto
import Derived.Deep.RegionHeld3
set_option linter.unusedVariables false
namespace Go.Proofs.YthecfligfhpccaaDoor.Gn
open Go.RowKit Go.Proofs.YthecfligfhpccaaDoorW.PrintWords Go.Proofs.YthecfligfhpccaaDoorW.PrintLast Go.Proofs.YthecfligfhpccaaDoorW.PrintMore
theorem run_appendC {P : Program} {α : Type} {enc : α → Value} {he : ∀ x, (enc x).oneCell' = true} (w : World) (t ty e : TypeId) (z : Value) (bytes : Nat) (ht : P.underlying t = some (.slice e)) (hi : (P.info? e).map (fun i => (i.zero, i.size, i.bytes)) = some (some z, 1, bytes)) (hzs : z.cells.size = 1)
    (v : Value) (xs : List Value) (hown : ORow w e v xs) (A : Option Addr) (m c : Nat) (ys : List α) (hm : ys.length = m) (hC : (Kd.scalar enc he).C w A m ys)
    (hl : (xs.length + m) * bytes ≤ 140737488355328) (hl2 : xs.length + m ≤ maxLen) :
    ∃ v' w', (Builtin.append_ #[t, t] ty #[v, .slice A m c]).run P w = .ok v' w' ∧ ORow w' e v' (xs ++ ys.map enc) ∧ Chg v.ownBlock.toList w w' ∧ (v'.ownBlock = v.ownBlock ∨ v'.ownBlock = some w.heap.size) := by
  subst hm
  obtain ⟨i, hi1, hi2, hi3, hi4⟩ := info_parts hi
  obtain ⟨_, _, hcc⟩ := hC
  cases A with
  | none =>
    have hz : ys = [] := by
      cases ys with
      | nil => rfl
      | cons y ys => obtain ⟨ad, h, _⟩ := hcc (by simp); cases h
    subst hz
    exact ⟨v, w, run_append_none hown ht hi1 c, by simpa using hown, Chg.refl _ _, .inl rfl⟩
  | some ad =>
    obtain ⟨v', w', h1, h2, h3, _, h5⟩ := run_append_own_at (P := P) w 0 t ty e i z 1 bytes ht hi1 hi2 hi3 hi4 hzs (by omega) v xs.length xs hown ad ys.length c (ys.map enc) (by simp) (fun j u hj => by
      rw [List.getElem?_map] at hj
      obtain ⟨p, hp, rfl⟩ := Option.map_eq_some_iff.1 hj
      have hjl := (List.getElem?_eq_some_iff.1 hp).1
      obtain ⟨ad', had, hcells⟩ := hcc (by omega)
      injection had with had
      subst had
      obtain ⟨cs, g1, g2, g3⟩ := hcells j p hp
      have g2 : cs = [enc p] := g2
      have := g3 0 (enc p) (by rw [g2]; rfl)
      have e1 : j * 1 + 0 = j := by omega
      have this : w.cell? (ad.add (j * 1 + 0)) = some (enc p) := this
      rwa [e1] at this) (fun u hu => by
      obtain ⟨p, _, rfl⟩ := List.mem_map.1 hu
      exact he p) hl2 hl (Nat.zero_le _)
    exact ⟨v', w', h1, by unfold ORow; simpa using h2, grownBy_chg h3, h5⟩
theorem step_appendC {P : Program} {α : Type} {enc : α → Value} {he : ∀ x, (enc x).oneCell' = true} {w : World} {ops : Array Oper} {o : Oper} {a : Act} {K : Act → World → Prop} {Q : Exit → Act → World → Prop} {E : Prop} (hgd : o.guard = none) (s x : Operand) (t : TypeId)
    (ho : o.op = .call { callee := .builtin .append, args := #[s, x], argTypes := #[t, t] })
    (e : TypeId) (z : Value) (bytes : Nat) (ht : P.underlying t = some (.slice e)) (hi : (P.info? e).map (fun i => (i.zero, i.size, i.bytes)) = some (some z, 1, bytes)) (hzs : z.cells.size = 1)
    (v : Value) (xs : List Value) (hs : a.eval s = v) (hown : ORow w e v xs) (A : Option Addr) (m c : Nat) (ys : List α) (hm : ys.length = m) (hx : a.eval x = .slice A m c) (hC : (Kd.scalar enc he).C w A m ys)
    (hl : (xs.length + m) * bytes ≤ 140737488355328) (hl2 : xs.length + m ≤ maxLen)
    (h : ∀ v' w', ORow w' e v' (xs ++ ys.map enc) → Chg v.ownBlock.toList w w' → (v'.ownBlock = v.ownBlock ∨ v'.ownBlock = some w.heap.size) → K (a.put o.dst v') w') :
    if Region.wanted o (yielded ops a.tmps) = true then Oper.wp P o a w K Q else E := by
  have hw : Region.wanted o (yielded ops a.tmps) = true := by simp [Region.wanted, hgd]
  rw [if_pos hw]
  obtain ⟨v', w', hrun, h1, h2, h3⟩ := run_appendC (P := P) w t o.type e z bytes ht hi hzs v xs hown A m c ys hm hC hl hl2
  unfold Oper.wp
  simp [execOp, ho, resolve, invoke, builtin, hs, hx, hrun, Result.andThen]
  exact h v' w' h1 h2 h3
theorem C_of_own {α : Type} {enc : α → Value} {he : ∀ x, (enc x).oneCell' = true} {w : World} {e n c : Nat} {A : Option Addr} {xs : List α} (h : ORow w e (.slice A n c) (xs.map enc)) (hn : xs.length = n) (hl : n ≤ 9223372036854775807) : (Kd.scalar enc he).C w A n xs := by
  refine ⟨hn, hl, fun hp => ?_⟩
  obtain ⟨A', c', e', _, hA, _⟩ := h.slice
  injection e' with e1 _ _
  subst e1
  obtain ⟨g, rfl⟩ := hA (fun q => by have := congrArg List.length q; simp at this; rw [this] at hn; simp at hn; omega)
  refine ⟨_, rfl, fun j p hj => ⟨[enc p], rfl, rfl, fun i u hu => ?_⟩⟩
  obtain ⟨hj1, hj2⟩ := List.getElem?_eq_some_iff.1 hj
  rcases i with _ | i
  · have hu : enc p = u := by simpa using hu
    have h2 := h.cell j (by simpa using hj1)
    rw [List.getElem_map, hj2] at h2
    rw [← hu, ← h2]
    show w.cell? ((⟨g, 0, none⟩ : Addr).add (j * 1 + 0)) = _
    unfold Addr.add
    by_cases hz : j = 0
    · subst hz; rfl
    · rw [if_neg (by omega)]; simp
  · simp at hu
theorem gateR {P : Program} {w : World} {ops : Array Oper} {o : Oper} {a : Act} {K : Act → World → Prop} {Q : Exit → Act → World → Prop} {E : Prop} {N : Tmp} (_h : o.dst = some N) (h : if Region.wanted o (yielded ops a.tmps) = true then Oper.wp P o a w K Q else E) : if Region.wanted o (yielded ops a.tmps) = true then Oper.wp P o a w K Q else E := h
theorem ORow.drewI {w : World} {e : Nat} {v : Value} {xs : List Value} (h : ORow w e v xs) : ORow w.drew e v xs := h.chg (Chg.drew (Chg.refl [] w)) (by simp)
theorem ORow.allocI {w : World} {e : Nat} {v : Value} {xs : List Value} (h : ORow w e v xs) (o : Obj) : ORow (w.alloc o) e v xs := h.chg (Chg.alloc (Chg.refl [] w) o) (by simp)
theorem made0_of {w : World} {e g : Nat} (h : w.heap[g]? = some (.cells #[] e (0, 0))) : ORow w e (.slice (some ⟨g, 0, none⟩) 0 0) [] :=
  ORow.of (xs := []) (cap := 0) h (Nat.le_refl _) (by unfold maxLen; omega) rfl rfl
/-- A text in a block of its own, as a row of one. -/
theorem C_one {α : Type} {enc : α → Value} {he : ∀ x, (enc x).oneCell' = true} {w : World} {g : Nat} {y : α} (h : w.cell? ⟨g, 0, none⟩ = some (enc y)) : (Kd.scalar enc he).C w (some ⟨g, 0, none⟩) 1 [y] := by
  refine ⟨rfl, by omega, fun _ => ⟨_, rfl, fun j p hj => ⟨[enc p], rfl, rfl, fun i u hu => ?_⟩⟩⟩
  rcases j with _ | j
  · have hy : y = p := by simpa using hj
    subst hy
    rcases i with _ | i
    · have : enc y = u := by simpa using hu
      rw [← this]
      exact h
    · simp at hu
  · simp at hj
end Go.Proofs.YthecfligfhpccaaDoor.Gn
namespace Go.Proofs.YthecfligfhpccaaDoor.Li
open Go.RowKit Go.Proofs.YthecfligfhpccaaDoorW.PrintWords Go.Proofs.YthecfligfhpccaaDoorW.PrintLast Go.Proofs.YthecfligfhpccaaDoorW.PrintMore Go.Proofs.YthecfligfhpccaaDoor.Gn
/-- p stands in s ahead of k. -/
def isIn (s p : ByteArray) : Nat → Bool
  | 0 => false
  | k + 1 => isIn s p k || ((s.extract k (k + p.size)).toList == p.toList)
/-- One more text among sorted ones, if it is not there. -/
def insD (p : ByteArray) : List ByteArray → List ByteArray
  | [] => [p]
  | x :: l => if x.data.toList < p.data.toList then x :: insD p l else if x = p then x :: l else p :: x :: l
def specPS (s : ByteArray) (kw : List ByteArray) : List ByteArray := kw.foldl (fun out p => if isIn s p (s.size + 1 - p.size) then insD p out else out) []
theorem insD_len (p : ByteArray) : ∀ l, (insD p l).length ≤ l.length + 1
  | [] => Nat.le_refl _
  | x :: l => by
    have := insD_len p l
    unfold insD
    repeat' split
    all_goals simp only [List.length_cons]
    all_goals omega
theorem specPS_len (s : ByteArray) : ∀ (kw out : List ByteArray), (kw.foldl (fun out p => if isIn s p (s.size + 1 - p.size) then insD p out else out) out).length ≤ out.length + kw.length
  | [], out => Nat.le_refl _
  | p :: kw, out => by
    rw [List.foldl_cons, List.length_cons]
    have h1 := specPS_len s kw (if isIn s p (s.size + 1 - p.size) then insD p out else out)
    have h2 := insD_len p out
    split at h1
    · rename_i h; rw [if_pos h]; omega
    · rename_i h; rw [if_neg h]; omega
set_option maxHeartbeats 4000000 in
set_option maxRecDepth 100000 in
theorem specSorted_calls (w : World) (s : ByteArray) (A1 : Option Addr) (c1 : Nat) (kw : List ByteArray) (hr1 : Kd.C Kd.string w A1 kw.length kw) (hc1 : kw.length ≤ c1)
    (hl : s.size ≤ 1000) (hk : kw.length ≤ 1000) (hne : ∀ p ∈ kw, 1 ≤ p.size ∧ p.size ≤ 1000) :
    Calls Tryd.prog 14 #[.string s, .slice A1 kw.length c1] w fun e w' => ∃ v, e = .returned v ∧ Kd.R Kd.string 9 w' w.heap.size (fun _ => True) v (specPS s kw) ∧ Below w.heap.size w w' := by
  have HR1 := Aside0.mk hr1
  have HNE := Aside0.mk hne
  clear hr1 hc1 hne
  go_enter Tryd.func14, Tryd.ntmps14
  go_wp2_with fail
  go_loopw [5, 13] (fun v5 v13 wr => ∃ (k : Nat) (os : List ByteArray), v13 = .int .i64 k ∧ Aside0 (k ≤ kw.length) ∧ Aside0 (os = specPS s (kw.take k)) ∧ Aside0 (ORow wr 9 v5 (os.map Value.string)) ∧ Aside0 (∀ g, v5.ownBlock = some g → w.heap.size ≤ g) ∧ Aside0 (Chg [] w wr)) (fun _ v13 _ => kw.length - (intOf v13).toNat)
  case atStart => exact ⟨0, [], rfl, ⟨Nat.zero_le _⟩, ⟨rfl⟩, ⟨ORow.nil _ _⟩, ⟨fun g hg => by cases hg⟩, ⟨Chg.refl _ _⟩⟩
  case round =>
    obtain ⟨k, os, rfl, HI, HOS, HV, HG, HC⟩ := hrel
    by_cases hlt : k < kw.length
    · obtain ⟨ad, ead, hcell⟩ := Kd.at_string (Kd.C_below HR1.out (HC.out.toBelow (Nat.le_refl _) (by simp))) (k : Int) (by omega) (by omega)
      subst ead
      rw [Int.toNat_natCast] at hcell
      obtain ⟨p, hp⟩ : ∃ p, p = kw[k] := ⟨_, rfl⟩
      have hpe : Go.Proofs.YthecfligfhpccaaDoorW.PrintWords.rdOf ByteArray.empty kw (k : Int) = p := by rw [hp]; simp [Go.Proofs.YthecfligfhpccaaDoorW.PrintWords.rdOf, hlt]
      rw [hpe] at hcell
      have hpn := HNE.out p (by rw [hp]; exact List.getElem_mem _)
      have HST : Aside0 (specPS s (kw.take (k + 1)) = if isIn s p (s.size + 1 - p.size) then insD p os else os) := ⟨by rw [HOS.out, List.take_succ_eq_append_getElem hlt]; unfold specPS; rw [List.foldl_append, ← hp]; rfl⟩
      have hosl : os.length ≤ 1000 := by rw [HOS.out]; have := specPS_len s (kw.take k) []; unfold specPS; rw [List.length_take] at this; simp at this; omega
      have hpl : p.toList ≠ [] := fun h => by
        have h2 := congrArg List.length h
        rw [Go.ByteArray.toList_eq, Array.length_toList] at h2
        have : p.size = 0 := h2
        omega
      have n1 : p.toList.isEmpty = false := by
        cases h : p.toList with
        | nil => exact absurd h hpl
        | cons a l => rfl
      have n2 : (p.toList = []) = False := eq_false hpl
      have k1 : decide ((0:Int) ≤ (k:Int)) = true := decide_eq_true (by omega)
      have k2 : decide ((k:Int) < (kw.length:Int)) = true := decide_eq_true (by omega)
      clear hpe hp hpl
      go_wp2_with fail
      clear hcell k1 k2
      go_loop [8, 9] (fun v8 v9 => ∃ (i : Nat), v8 = .bool (isIn s p i) ∧ v9 = .int .i64 i ∧ Aside0 (i ≤ s.size + 1 - p.size)) (fun _ v9 => s.size + 1 - (intOf v9).toNat)
      case atStart => exact ⟨0, rfl, rfl, ⟨Nat.zero_le _⟩⟩
      case round =>
        obtain ⟨i, rfl, rfl, HI2⟩ := hrel
        have hi2 := HI2.out
        by_cases hit : i < s.size + 1 - p.size
        · have q1 : decide ((i : Int) + (p.size : Int) ≤ (s.size : Int)) = true := decide_eq_true (by omega)
          have q3 : (i : Int) ≤ (i : Int) + (p.size : Int) := by omega
          have q4 : (i : Int) + (p.size : Int) ≤ (s.size : Int) := by omega
          obtain ⟨b, hb⟩ : ∃ b, b = isIn s p i := ⟨_, rfl⟩
          have hstep : isIn s p (i + 1) = (b || ((s.extract i (i + p.size)).toList == p.toList)) := by rw [hb]; rfl
          have HST2 := Aside0.mk hstep
          rw [← hb]
          clear hstep hb
          cases b with
          | true =>
            go_wp2_with fail
            go_round
            case rel => exact ⟨i + 1, by rw [HST2.out]; rfl, by go_num, ⟨by omega⟩⟩
            case measure => simp [intOf]; omega
          | false =>
            go_wp2_with fail
            go_round
            case rel => exact ⟨i + 1, by rw [HST2.out]; rfl, by go_num, ⟨by omega⟩⟩
            case measure => simp [intOf]; omega
        · have q1 : decide ((i : Int) + (p.size : Int) ≤ (s.size : Int)) = false := decide_eq_false (by omega)
          have hie : i = s.size + 1 - p.size := by omega
          obtain ⟨b, hb⟩ : ∃ b, b = isIn s p i := ⟨_, rfl⟩
          rw [← hb]
          rw [hie] at hb
          have HST3 := HST.out
          rw [← hb] at HST3
          have HST := Aside0.mk HST3
          clear HST3 hb hie
          cases b with
          | false =>
            go_wp2_with fail
            go_roundw
            case rel => exact ⟨k + 1, os, by go_num, ⟨by omega⟩, ⟨by rw [HST.out]; rfl⟩, HV, HG, HC⟩
            case measure => simp [intOf]; omega
          | true =>
            obtain ⟨A5, c5, e5, hc5, hA5, hAn⟩ := HV.out.slice
            obtain ⟨M, hM⟩ : ∃ M, os.length = M := ⟨_, rfl⟩
            rw [List.length_map, hM] at e5 hc5
            have HM := Aside0.mk hM
            have HA5 := Aside0.mk hA5
            have HAN := Aside0.mk hAn
            subst e5
            clear hM hA5 hAn
            go_wp2_with fail
            clear q1
            go_loop [10] (fun v10 => ∃ (a : Nat), v10 = .int .i64 a ∧ Aside0 (a ≤ M) ∧ Aside0 (insD p os = os.take a ++ insD p (os.drop a))) (fun v10 => M - (intOf v10).toNat)
            case atStart => exact ⟨0, rfl, ⟨Nat.zero_le _⟩, ⟨by simp⟩⟩
            case round =>
              obtain ⟨a, rfl, HA, HIN⟩ := hrel
              have ha := HA.out
              by_cases hat : a < M
              · have hol : a < os.length := by rw [HM.out]; exact hat
                obtain ⟨g5, rfl⟩ := HA5.out (fun e => by have := congrArg List.length e; simp at this; rw [this] at hol; simp at hol)
                have hcl : wr.cell? ⟨g5, a, none⟩ = some (.string os[a]) := by
                  have := HV.out.cell a (by rw [List.length_map]; exact hol)
                  rw [this, List.getElem_map]
                obtain ⟨y, hy⟩ : ∃ y, y = os[a] := ⟨_, rfl⟩
                rw [← hy] at hcl
                have hdr : os.drop a = y :: os.drop (a + 1) := by rw [hy]; exact List.drop_eq_getElem_cons hol
                have htk : os.take (a + 1) = os.take a ++ [y] := by rw [hy]; exact List.take_succ_eq_append_getElem hol
                have HDR := Aside0.mk hdr
                have HTK := Aside0.mk htk
                have hbl : Op.bytesLess y.toList p.toList = decide (y.data.toList < p.data.toList) := by simp [Go.ByteArray.toList_eq, Go.Proofs.bytesLess_eq]
                have q1 : decide ((a : Int) < (M : Int)) = true := decide_eq_true (by omega)
                have q2 : decide (a < M) = true := decide_eq_true hat
                have q3 : decide ((0 : Int) ≤ (a : Int)) = true := decide_eq_true (by omega)
                clear hy hdr htk
                by_cases hly : y.data.toList < p.data.toList
                · rw [decide_eq_true hly] at hbl
                  have HIN2 : Aside0 (insD p os = os.take (a + 1) ++ insD p (os.drop (a + 1))) := ⟨by
                    rw [HTK.out, HIN.out, HDR.out, List.append_assoc]
                    congr 1
                    show insD p (y :: os.drop (a + 1)) = y :: insD p (os.drop (a + 1))
                    conv => lhs; unfold insD
                    rw [if_pos hly]⟩
                  clear hly
                  go_wp2_with fail
                  go_round
                  case rel => exact ⟨a + 1, by go_num, ⟨by omega⟩, HIN2⟩
                  case measure => simp [intOf]; omega
                · rw [decide_eq_false hly] at hbl
                  have hyp : (y.toList = p.toList) = (y = p) := propext ⟨fun h => by
                    rw [Go.ByteArray.toList_eq, Go.ByteArray.toList_eq] at h
                    exact bytes_ext h, fun h => by rw [h]⟩
                  by_cases hye : y = p
                  · have HIN2 : Aside0 (insD p os = os) := ⟨by
                      rw [HIN.out, HDR.out]
                      conv => lhs; arg 2; unfold insD
                      rw [if_neg hly, if_pos hye, ← HDR.out, List.take_append_drop]⟩
                    have n3 : (y.toList != p.toList) = false := by rw [hye]; simp
                    have n4 : (y.toList == p.toList) = true := by rw [hye]; simp
                    have n5 : (y.toList = p.toList) = True := eq_true (by rw [hye])
                    have n6 : ((a : Int) == (M : Int)) = false := beq_eq_false_iff_ne.2 (by omega)
                    have n7 : (a == M) = false := beq_eq_false_iff_ne.2 (by omega)
                    clear hyp hye hly
                    go_wp2_with fail
                    go_roundw
                    case rel => exact ⟨k + 1, os, by go_num, ⟨by omega⟩, ⟨by rw [HST.out]; simp only [if_true]; exact HIN2.out.symm⟩, HV, HG, HC⟩
                    case measure => simp [intOf]; omega
                  · have HIN2 : Aside0 (insD p os = os.take a ++ [p] ++ os.drop a) := ⟨by
                      rw [HIN.out, HDR.out, List.append_assoc]
                      congr 1
                      conv => lhs; unfold insD
                      rw [if_neg hly, if_neg hye]; rfl⟩
                    have n3 : (y.toList != p.toList) = true := bne_iff_ne.2 (fun h => hye (by rw [hyp] at h; exact h))
                    have n4 : (y.toList == p.toList) = false := beq_eq_false_iff_ne.2 (fun h => hye (by rw [hyp] at h; exact h))
                    have n5 : (y.toList = p.toList) = False := eq_false (fun h => hye (by rw [hyp] at h; exact h))
                    have n6 : ((a : Int) == (M : Int)) = false := beq_eq_false_iff_ne.2 (by omega)
                    have n7 : (a == M) = false := beq_eq_false_iff_ne.2 (by omega)
                    clear hyp hye hly
                    have hos2 : os.length = M := HM.out
                    have hC5 : Kd.C Kd.string wr (some ⟨g5, 0, none⟩) M os := C_of_own (enc := Value.string) HV.out hos2 (by omega)
                    have hCT : Kd.C Kd.string wr (some ⟨g5, 0, none⟩) a (os.take a) := by
                      have := Kd.C_take (by rw [hos2]; exact hC5) (m := a) (by omega)
                      rwa [List.length_take, show min a os.length = a by omega] at this
                    have hCD : Kd.C Kd.string wr (some ⟨g5, a, none⟩) (M - a) (os.drop a) := by
                      have := Kd.C_drop (by rw [hos2]; exact hC5) (m := a) (c := c5) (by omega) (by omega)
                      rw [List.length_drop, hos2, if_neg (by omega)] at this
                      have e1 : ((some (⟨g5, 0, none⟩ : Addr)).map (·.add (a * Kd.string.sz))) = some ⟨g5, a, none⟩ := by
                        show some ((⟨g5, 0, none⟩ : Addr).add (a * 1)) = _
                        unfold Addr.add
                        by_cases hz : a = 0
                        · subst hz; rfl
                        · rw [if_neg (by omega)]; simp
                      rwa [e1] at this
                    have HCT := Aside0.mk hCT
                    have HCD := Aside0.mk hCD
                    have hlt5 : g5 < wr.heap.size := (HV.out.block rfl).1
                    have j1 : ¬ c5 = a := by omega
                    have j2 : (a : Int) ≤ (c5 : Int) := by omega
                    have j3 : (a : Int) ≤ (M : Int) := by omega
                    clear hC5 hCT hCD hos2
                    go_upto_region 15 with fail
                    go_region_law (first | ((with_reducible refine gateR (N := 74) rfl ?_); refine step_appendC (enc := Value.string) (he := fun _ => rfl) rfl _ _ 22 rfl 9 (.string ⟨#[]⟩) 16 Tryd.underlying22 infoS rfl (.slice (some ⟨_, 0, none⟩) 0 0) [] rfl (made0_of (by first | exact heap_alloc_new _ _ | exact (Below.heap_alloc _ _ _ (by simp)).trans (heap_alloc_new _ _) | (have h_ := heap_alloc_new (wr.alloc (.cells #[.string p] 9)) (.cells #[] 9); rw [size_alloc] at h_; exact h_))) (some ⟨g5, 0, none⟩) a c5 (os.take a) (by rw [List.length_take]; have := HM.out; omega) rfl (by (repeat (with_reducible first | apply Kd.C_drew | apply Kd.C_alloc)); exact HCT.out) (by simp only [List.length_append, List.length_map, List.length_take, List.length_cons, List.length_nil]; have := HM.out; omega) (by unfold maxLen; simp only [List.length_append, List.length_map, List.length_take, List.length_cons, List.length_nil]; have := HM.out; omega) ?_; intro va wa hra hca hoa; rw [List.nil_append] at hra; have HRA := Aside0.mk hra; have HCA := Aside0.mk hca; have HWA : Aside0 (Chg [] wr wa) := ⟨Chg.above (T := []) (by repeat (with_reducible first | exact Chg.refl _ _ | apply Chg.drew | apply Chg.alloc)) hca (fun i hi => .inr (by simp [Value.ownBlock] at hi; omega))⟩; have HOA : Aside0 (∀ g, va.ownBlock = some g → wr.heap.size ≤ g) := ⟨fun g hg => by rw [hg] at hoa; rcases hoa with q | q <;> simp [Value.ownBlock] at q <;> omega⟩; clear hra hca hoa) | ((with_reducible refine gateR (N := 77) rfl ?_); refine step_appendC (enc := Value.string) (he := fun _ => rfl) rfl _ _ 22 rfl 9 (.string ⟨#[]⟩) 16 Tryd.underlying22 infoS rfl va ((os.take a).map Value.string) rfl (by repeat (with_reducible first | exact HRA.out | apply ORow.drewI | apply ORow.allocI)) (some ⟨_, 0, none⟩) 1 1 [p] rfl rfl (C_one (by first | (simp; done) | (rw [World.cell?_of_block (HCA.out.block _ (by first | (simp; done) | (simp; omega)) (by simp [Value.ownBlock]))]; simp; done))) (by simp only [List.length_append, List.length_map, List.length_take, List.length_cons, List.length_nil]; have := HM.out; omega) (by unfold maxLen; simp only [List.length_append, List.length_map, List.length_take, List.length_cons, List.length_nil]; have := HM.out; omega) ?_; intro vb wb hrb hcb hob; have HRB := Aside0.mk hrb; have HWB : Aside0 (Chg [] wr wb) := ⟨Chg.above (T := []) (by repeat (with_reducible first | exact HWA.out | apply Chg.drew | apply Chg.alloc)) hcb (fun i hi => .inr (HOA.out i (by simpa using hi)))⟩; have HOB : Aside0 (∀ g, vb.ownBlock = some g → wr.heap.size ≤ g) := ⟨fun g hg => by have hz := HWA.out.size; rcases hob with q | q; exact HOA.out g (by rw [← q]; exact hg); rw [hg] at q; simp at q; omega⟩; clear hrb hcb hob) | ((with_reducible refine gateR (N := 81) rfl ?_); refine step_appendC (enc := Value.string) (he := fun _ => rfl) rfl _ _ 22 rfl 9 (.string ⟨#[]⟩) 16 Tryd.underlying22 infoS rfl vb ((os.take a).map Value.string ++ [p].map Value.string) rfl (by repeat (with_reducible first | exact HRB.out | apply ORow.drewI)) (some ⟨g5, a, none⟩) (M - a) (c5 - a) (os.drop a) (by rw [List.length_drop]; have := HM.out; omega) rfl (Kd.C_below HCD.out (Chg.toBelow (by repeat (with_reducible first | exact HWB.out | apply Chg.drew)) (Nat.le_refl _) (by simp))) (by simp only [List.length_append, List.length_map, List.length_take, List.length_cons, List.length_nil]; have := HM.out; omega) (by unfold maxLen; simp only [List.length_append, List.length_map, List.length_take, List.length_cons, List.length_nil]; have := HM.out; omega) ?_; intro vc wc hrc hcc hoc; have HRC := Aside0.mk hrc; have HWC : Aside0 (Chg [] wr wc) := ⟨Chg.above (T := []) (by repeat (with_reducible first | exact HWB.out | apply Chg.drew)) hcc (fun i hi => .inr (HOB.out i (by simpa using hi)))⟩; have HOC : Aside0 (∀ g, vc.ownBlock = some g → wr.heap.size ≤ g) := ⟨fun g hg => by have hz := HWB.out.size; rcases hoc with q | q; exact HOB.out g (by rw [← q]; exact hg); rw [hg] at q; simp at q; omega⟩; clear hrc hcc hoc))
                    all_goals have hrow : ORow wc 9 vc ((insD p os).map Value.string) := (by rw [HIN2.out, List.map_append, List.map_append]; exact HRC.out)
                    all_goals have HROW := Aside0.mk hrow
                    all_goals obtain ⟨A9, c9, e9, _⟩ := hrow.slice
                    all_goals obtain ⟨n9, hn9⟩ : ∃ n9, n9 = ((insD p os).map Value.string).length := ⟨_, rfl⟩
                    all_goals rw [← hn9] at e9
                    all_goals subst e9
                    all_goals clear hrow hn9
                    all_goals go_wp2_with fail
                    all_goals go_roundw
                    all_goals first | exact ⟨k + 1, insD p os, by go_num, ⟨by omega⟩, ⟨by rw [HST.out]; simp only [if_true]⟩, HROW, ⟨fun g hg => Nat.le_trans HC.out.size (HOC.out g hg)⟩, ⟨HC.out.trans HWC.out⟩⟩ | (simp [intOf]; omega)
              · have ham : a = M := by omega
                have HIN2 : Aside0 (insD p os = os ++ [p]) := ⟨by
                  have := HIN.out
                  rw [ham, List.take_of_length_le (by rw [HM.out]; exact Nat.le_refl _), List.drop_of_length_le (by rw [HM.out]; exact Nat.le_refl _)] at this
                  exact this⟩
                have HCT := Aside0.mk (C_of_own (enc := Value.string) (he := fun _ => rfl) HV.out HM.out (by have := HM.out; omega))
                have j3 : M ≤ c5 := hc5
                have j4 : (M : Int) ≤ (c5 : Int) := by omega
                subst ham
                have q1 : decide ((a : Int) < (a : Int)) = false := decide_eq_false (by omega)
                have q2 : decide (a < a) = false := decide_eq_false (by omega)
                have n6 : ((a : Int) == (a : Int)) = true := beq_iff_eq.2 rfl
                have n7 : (a == a) = true := beq_iff_eq.2 rfl
                rcases (show (∃ g, A5 = some ⟨g, 0, none⟩) ∨ (A5 = none ∧ a = 0 ∧ c5 = 0) from by
                  rcases HV.out.parts with ⟨h1, h2⟩ | ⟨g, cap, cur, h1, _⟩
                  · injection h1 with e1 e2 e3
                    exact .inr ⟨e1, e2, e3⟩
                  · injection h1 with e1 e2 e3
                    exact .inl ⟨g, e1⟩) with ⟨g5, rfl⟩ | ⟨rfl, rfl, rfl⟩
                · have hlt5 : g5 < wr.heap.size := (HV.out.block rfl).1
                  by_cases hca : c5 = a
                  · subst hca
                    go_upto_region 15 with fail
                    go_region_law (first | ((with_reducible refine gateR (N := 74) rfl ?_); refine step_appendC (enc := Value.string) (he := fun _ => rfl) rfl _ _ 22 rfl 9 (.string ⟨#[]⟩) 16 Tryd.underlying22 infoS rfl (.slice (some ⟨_, 0, none⟩) 0 0) [] rfl (made0_of (by first | exact heap_alloc_new _ _ | exact (Below.heap_alloc _ _ _ (by simp)).trans (heap_alloc_new _ _) | (have h_ := heap_alloc_new (wr.alloc (.cells #[.string p] 9)) (.cells #[] 9); rw [size_alloc] at h_; exact h_))) (some ⟨g5, 0, none⟩) _ _ os HM.out rfl (by (repeat (with_reducible first | apply Kd.C_drew | apply Kd.C_alloc)); exact HCT.out) (by simp only [List.length_append, List.length_map, List.length_cons, List.length_nil]; have := HM.out; omega) (by unfold maxLen; simp only [List.length_append, List.length_map, List.length_cons, List.length_nil]; have := HM.out; omega) ?_; intro va wa hra hca hoa; rw [List.nil_append] at hra; have HRA := Aside0.mk hra; have HCA := Aside0.mk hca; have HWA : Aside0 (Chg [] wr wa) := ⟨Chg.above (T := []) (by repeat (with_reducible first | exact Chg.refl _ _ | apply Chg.drew | apply Chg.alloc)) hca (fun i hi => .inr (by simp [Value.ownBlock] at hi; omega))⟩; have HOA : Aside0 (∀ g, va.ownBlock = some g → wr.heap.size ≤ g) := ⟨fun g hg => by rw [hg] at hoa; rcases hoa with q | q <;> simp [Value.ownBlock] at q <;> omega⟩; clear hra hca hoa) | ((with_reducible refine gateR (N := 77) rfl ?_); refine step_appendC (enc := Value.string) (he := fun _ => rfl) rfl _ _ 22 rfl 9 (.string ⟨#[]⟩) 16 Tryd.underlying22 infoS rfl va (os.map Value.string) rfl (by repeat (with_reducible first | exact HRA.out | apply ORow.drewI | apply ORow.allocI)) (some ⟨_, 0, none⟩) 1 1 [p] rfl rfl (C_one (by first | (simp; done) | (rw [World.cell?_of_block (HCA.out.block _ (by first | (simp; done) | (simp; omega)) (by simp [Value.ownBlock]))]; simp; done))) (by simp only [List.length_append, List.length_map, List.length_cons, List.length_nil]; have := HM.out; omega) (by unfold maxLen; simp only [List.length_append, List.length_map, List.length_cons, List.length_nil]; have := HM.out; omega) ?_; intro vb wb hrb hcb hob; have HRB := Aside0.mk hrb; have HWB : Aside0 (Chg [] wr wb) := ⟨Chg.above (T := []) (by repeat (with_reducible first | exact HWA.out | apply Chg.drew | apply Chg.alloc)) hcb (fun i hi => .inr (HOA.out i (by simpa using hi)))⟩; have HOB : Aside0 (∀ g, vb.ownBlock = some g → wr.heap.size ≤ g) := ⟨fun g hg => by have hz := HWA.out.size; rcases hob with q | q; exact HOA.out g (by rw [← q]; exact hg); rw [hg] at q; simp at q; omega⟩; clear hrb hcb hob) | ((with_reducible refine gateR (N := 81) rfl ?_); refine step_appendC (enc := Value.string) (he := fun _ => rfl) rfl _ _ 22 rfl 9 (.string ⟨#[]⟩) 16 Tryd.underlying22 infoS rfl vb (os.map Value.string ++ [p].map Value.string) rfl (by repeat (with_reducible first | exact HRB.out | apply ORow.drewI)) _ _ _ ([] : List ByteArray) (by simp) rfl ⟨by simp, by simp, fun h => by simp at h⟩ (by simp only [List.length_append, List.length_map, List.length_cons, List.length_nil, Nat.sub_self]; have := HM.out; omega) (by unfold maxLen; simp only [List.length_append, List.length_map, List.length_cons, List.length_nil, Nat.sub_self]; have := HM.out; omega) ?_; intro vc wc hrc hcc hoc; have HRC := Aside0.mk hrc; have HWC : Aside0 (Chg [] wr wc) := ⟨Chg.above (T := []) (by repeat (with_reducible first | exact HWB.out | apply Chg.drew)) hcc (fun i hi => .inr (HOB.out i (by simpa using hi)))⟩; have HOC : Aside0 (∀ g, vc.ownBlock = some g → wr.heap.size ≤ g) := ⟨fun g hg => by have hz := HWB.out.size; rcases hoc with q | q; exact HOB.out g (by rw [← q]; exact hg); rw [hg] at q; simp at q; omega⟩; clear hrc hcc hoc))
                    all_goals have hrow : ORow wc 9 vc ((insD p os).map Value.string) := (by rw [HIN2.out, List.map_append]; have := HRC.out; simpa using this)
                    all_goals have HROW := Aside0.mk hrow
                    all_goals obtain ⟨A9, c9, e9, _⟩ := hrow.slice
                    all_goals obtain ⟨n9, hn9⟩ : ∃ n9, n9 = ((insD p os).map Value.string).length := ⟨_, rfl⟩
                    all_goals rw [← hn9] at e9
                    all_goals subst e9
                    all_goals clear hrow hn9
                    all_goals go_wp2_with fail
                    all_goals go_roundw
                    all_goals first | exact ⟨k + 1, insD p os, by go_num, ⟨by omega⟩, ⟨by rw [HST.out]; simp only [if_true]⟩, HROW, ⟨fun g hg => Nat.le_trans HC.out.size (HOC.out g hg)⟩, ⟨HC.out.trans HWC.out⟩⟩ | (simp [intOf]; omega)
                  · have j5 : (a : Int) ≤ (a : Int) := by omega
                    go_upto_region 15 with fail
                    go_region_law (first | ((with_reducible refine gateR (N := 74) rfl ?_); refine step_appendC (enc := Value.string) (he := fun _ => rfl) rfl _ _ 22 rfl 9 (.string ⟨#[]⟩) 16 Tryd.underlying22 infoS rfl (.slice (some ⟨_, 0, none⟩) 0 0) [] rfl (made0_of (by first | exact heap_alloc_new _ _ | exact (Below.heap_alloc _ _ _ (by simp)).trans (heap_alloc_new _ _) | (have h_ := heap_alloc_new (wr.alloc (.cells #[.string p] 9)) (.cells #[] 9); rw [size_alloc] at h_; exact h_))) (some ⟨g5, 0, none⟩) _ _ os HM.out rfl (by (repeat (with_reducible first | apply Kd.C_drew | apply Kd.C_alloc)); exact HCT.out) (by simp only [List.length_append, List.length_map, List.length_cons, List.length_nil]; have := HM.out; omega) (by unfold maxLen; simp only [List.length_append, List.length_map, List.length_cons, List.length_nil]; have := HM.out; omega) ?_; intro va wa hra hca hoa; rw [List.nil_append] at hra; have HRA := Aside0.mk hra; have HCA := Aside0.mk hca; have HWA : Aside0 (Chg [] wr wa) := ⟨Chg.above (T := []) (by repeat (with_reducible first | exact Chg.refl _ _ | apply Chg.drew | apply Chg.alloc)) hca (fun i hi => .inr (by simp [Value.ownBlock] at hi; omega))⟩; have HOA : Aside0 (∀ g, va.ownBlock = some g → wr.heap.size ≤ g) := ⟨fun g hg => by rw [hg] at hoa; rcases hoa with q | q <;> simp [Value.ownBlock] at q <;> omega⟩; clear hra hca hoa) | ((with_reducible refine gateR (N := 77) rfl ?_); refine step_appendC (enc := Value.string) (he := fun _ => rfl) rfl _ _ 22 rfl 9 (.string ⟨#[]⟩) 16 Tryd.underlying22 infoS rfl va (os.map Value.string) rfl (by repeat (with_reducible first | exact HRA.out | apply ORow.drewI | apply ORow.allocI)) (some ⟨_, 0, none⟩) 1 1 [p] rfl rfl (C_one (by first | (simp; done) | (rw [World.cell?_of_block (HCA.out.block _ (by first | (simp; done) | (simp; omega)) (by simp [Value.ownBlock]))]; simp; done))) (by simp only [List.length_append, List.length_map, List.length_cons, List.length_nil]; have := HM.out; omega) (by unfold maxLen; simp only [List.length_append, List.length_map, List.length_cons, List.length_nil]; have := HM.out; omega) ?_; intro vb wb hrb hcb hob; have HRB := Aside0.mk hrb; have HWB : Aside0 (Chg [] wr wb) := ⟨Chg.above (T := []) (by repeat (with_reducible first | exact HWA.out | apply Chg.drew | apply Chg.alloc)) hcb (fun i hi => .inr (HOA.out i (by simpa using hi)))⟩; have HOB : Aside0 (∀ g, vb.ownBlock = some g → wr.heap.size ≤ g) := ⟨fun g hg => by have hz := HWA.out.size; rcases hob with q | q; exact HOA.out g (by rw [← q]; exact hg); rw [hg] at q; simp at q; omega⟩; clear hrb hcb hob) | ((with_reducible refine gateR (N := 81) rfl ?_); refine step_appendC (enc := Value.string) (he := fun _ => rfl) rfl _ _ 22 rfl 9 (.string ⟨#[]⟩) 16 Tryd.underlying22 infoS rfl vb (os.map Value.string ++ [p].map Value.string) rfl (by repeat (with_reducible first | exact HRB.out | apply ORow.drewI)) _ _ _ ([] : List ByteArray) (by simp) rfl ⟨by simp, by simp, fun h => by simp at h⟩ (by simp only [List.length_append, List.length_map, List.length_cons, List.length_nil, Nat.sub_self]; have := HM.out; omega) (by unfold maxLen; simp only [List.length_append, List.length_map, List.length_cons, List.length_nil, Nat.sub_self]; have := HM.out; omega) ?_; intro vc wc hrc hcc hoc; have HRC := Aside0.mk hrc; have HWC : Aside0 (Chg [] wr wc) := ⟨Chg.above (T := []) (by repeat (with_reducible first | exact HWB.out | apply Chg.drew)) hcc (fun i hi => .inr (HOB.out i (by simpa using hi)))⟩; have HOC : Aside0 (∀ g, vc.ownBlock = some g → wr.heap.size ≤ g) := ⟨fun g hg => by have hz := HWB.out.size; rcases hoc with q | q; exact HOB.out g (by rw [← q]; exact hg); rw [hg] at q; simp at q; omega⟩; clear hrc hcc hoc))
                    all_goals have hrow : ORow wc 9 vc ((insD p os).map Value.string) := (by rw [HIN2.out, List.map_append]; have := HRC.out; simpa using this)
                    all_goals have HROW := Aside0.mk hrow
                    all_goals obtain ⟨A9, c9, e9, _⟩ := hrow.slice
                    all_goals obtain ⟨n9, hn9⟩ : ∃ n9, n9 = ((insD p os).map Value.string).length := ⟨_, rfl⟩
                    all_goals rw [← hn9] at e9
                    all_goals subst e9
                    all_goals clear hrow hn9
                    all_goals go_wp2_with fail
                    all_goals go_roundw
                    all_goals first | exact ⟨k + 1, insD p os, by go_num, ⟨by omega⟩, ⟨by rw [HST.out]; simp only [if_true]⟩, HROW, ⟨fun g hg => Nat.le_trans HC.out.size (HOC.out g hg)⟩, ⟨HC.out.trans HWC.out⟩⟩ | (simp [intOf]; omega)
                · have j5 : (0 : Int) ≤ (0 : Int) := by omega
                  go_upto_region 15 with fail
                  go_region_law (first | ((with_reducible refine gateR (N := 74) rfl ?_); refine step_appendC (enc := Value.string) (he := fun _ => rfl) rfl _ _ 22 rfl 9 (.string ⟨#[]⟩) 16 Tryd.underlying22 infoS rfl (.slice (some ⟨_, 0, none⟩) 0 0) [] rfl (made0_of (by first | exact heap_alloc_new _ _ | exact (Below.heap_alloc _ _ _ (by simp)).trans (heap_alloc_new _ _) | (have h_ := heap_alloc_new (wr.alloc (.cells #[.string p] 9)) (.cells #[] 9); rw [size_alloc] at h_; exact h_))) none _ _ os HM.out rfl (by (repeat (with_reducible first | apply Kd.C_drew | apply Kd.C_alloc)); exact HCT.out) (by simp only [List.length_append, List.length_map, List.length_cons, List.length_nil]; have := HM.out; omega) (by unfold maxLen; simp only [List.length_append, List.length_map, List.length_cons, List.length_nil]; have := HM.out; omega) ?_; intro va wa hra hca hoa; rw [List.nil_append] at hra; have HRA := Aside0.mk hra; have HCA := Aside0.mk hca; have HWA : Aside0 (Chg [] wr wa) := ⟨Chg.above (T := []) (by repeat (with_reducible first | exact Chg.refl _ _ | apply Chg.drew | apply Chg.alloc)) hca (fun i hi => .inr (by simp [Value.ownBlock] at hi; omega))⟩; have HOA : Aside0 (∀ g, va.ownBlock = some g → wr.heap.size ≤ g) := ⟨fun g hg => by rw [hg] at hoa; rcases hoa with q | q <;> simp [Value.ownBlock] at q <;> omega⟩; clear hra hca hoa) | ((with_reducible refine gateR (N := 77) rfl ?_); refine step_appendC (enc := Value.string) (he := fun _ => rfl) rfl _ _ 22 rfl 9 (.string ⟨#[]⟩) 16 Tryd.underlying22 infoS rfl va (os.map Value.string) rfl (by repeat (with_reducible first | exact HRA.out | apply ORow.drewI | apply ORow.allocI)) (some ⟨_, 0, none⟩) 1 1 [p] rfl rfl (C_one (by first | (simp; done) | (rw [World.cell?_of_block (HCA.out.block _ (by first | (simp; done) | (simp; omega)) (by simp [Value.ownBlock]))]; simp; done))) (by simp only [List.length_append, List.length_map, List.length_cons, List.length_nil]; have := HM.out; omega) (by unfold maxLen; simp only [List.length_append, List.length_map, List.length_cons, List.length_nil]; have := HM.out; omega) ?_; intro vb wb hrb hcb hob; have HRB := Aside0.mk hrb; have HWB : Aside0 (Chg [] wr wb) := ⟨Chg.above (T := []) (by repeat (with_reducible first | exact HWA.out | apply Chg.drew | apply Chg.alloc)) hcb (fun i hi => .inr (HOA.out i (by simpa using hi)))⟩; have HOB : Aside0 (∀ g, vb.ownBlock = some g → wr.heap.size ≤ g) := ⟨fun g hg => by have hz := HWA.out.size; rcases hob with q | q; exact HOA.out g (by rw [← q]; exact hg); rw [hg] at q; simp at q; omega⟩; clear hrb hcb hob) | ((with_reducible refine gateR (N := 81) rfl ?_); refine step_appendC (enc := Value.string) (he := fun _ => rfl) rfl _ _ 22 rfl 9 (.string ⟨#[]⟩) 16 Tryd.underlying22 infoS rfl vb (os.map Value.string ++ [p].map Value.string) rfl (by repeat (with_reducible first | exact HRB.out | apply ORow.drewI)) _ _ _ ([] : List ByteArray) (by simp) rfl ⟨by simp, by simp, fun h => by simp at h⟩ (by simp only [List.length_append, List.length_map, List.length_cons, List.length_nil, Nat.sub_self]; have := HM.out; omega) (by unfold maxLen; simp only [List.length_append, List.length_map, List.length_cons, List.length_nil, Nat.sub_self]; have := HM.out; omega) ?_; intro vc wc hrc hcc hoc; have HRC := Aside0.mk hrc; have HWC : Aside0 (Chg [] wr wc) := ⟨Chg.above (T := []) (by repeat (with_reducible first | exact HWB.out | apply Chg.drew)) hcc (fun i hi => .inr (HOB.out i (by simpa using hi)))⟩; have HOC : Aside0 (∀ g, vc.ownBlock = some g → wr.heap.size ≤ g) := ⟨fun g hg => by have hz := HWB.out.size; rcases hoc with q | q; exact HOB.out g (by rw [← q]; exact hg); rw [hg] at q; simp at q; omega⟩; clear hrc hcc hoc))
                  all_goals have hrow : ORow wc 9 vc ((insD p os).map Value.string) := (by rw [HIN2.out, List.map_append]; have := HRC.out; simpa using this)
                  all_goals have HROW := Aside0.mk hrow
                  all_goals obtain ⟨A9, c9, e9, _⟩ := hrow.slice
                  all_goals obtain ⟨n9, hn9⟩ : ∃ n9, n9 = ((insD p os).map Value.string).length := ⟨_, rfl⟩
                  all_goals rw [← hn9] at e9
                  all_goals subst e9
                  all_goals clear hrow hn9
                  all_goals go_wp2_with fail
                  all_goals go_roundw
                  all_goals first | exact ⟨k + 1, insD p os, by go_num, ⟨by omega⟩, ⟨by rw [HST.out]; simp only [if_true]⟩, HROW, ⟨fun g hg => Nat.le_trans HC.out.size (HOC.out g hg)⟩, ⟨HC.out.trans HWC.out⟩⟩ | (simp [intOf]; omega)
    · have hk2 : k = kw.length := by have := HI.out; omega
      have hos : os = specPS s kw := by have := HOS.out; rw [hk2, List.take_length] at this; exact this
      have HOS2 := Aside0.mk hos
      obtain ⟨A5, c5, e5, _⟩ := HV.out.slice
      obtain ⟨n5, hn5⟩ : ∃ n5, n5 = (os.map Value.string).length := ⟨_, rfl⟩
      rw [← hn5] at e5
      subst e5
      have k1 : decide (k < kw.length) = false := decide_eq_false hlt
      have k2 : decide ((k:Int) < (kw.length:Int)) = false := decide_eq_false (by omega)
      clear hk2 hos hn5
      go_wp2_with fail
      go_ret
      refine ⟨_, rfl, ?_, HC.out.toBelow (Nat.le_refl _) (by simp)⟩
      rw [← HOS2.out]
      exact R_of_row (enc := Value.string) HV.out (fun g hg => ⟨HG.out g hg, trivial⟩)
end Go.Proofs.YthecfligfhpccaaDoor.Li
namespace Go.Proofs.YthecfligfhpccaaDoor.P
open Go.RowKit Go.Proofs.YthecfligfhpccaaDoorW.PrintWords Go.Proofs.YthecfligfhpccaaDoorW.PrintLast Go.Proofs.YthecfligfhpccaaDoorW.PrintMore Go.Proofs.YthecfligfhpccaaDoor.Gn Go.Proofs.YthecfligfhpccaaDoor.Li
def spec_PlacesSorted.f (x : ByteArray) (kw : List ByteArray) : Option (List ByteArray) := if goodPl x kw then some (specPS x kw) else none
theorem spec_PlacesSorted.calls (x : ByteArray) (A1 : Option Addr) (c1 : Nat) (kw : List ByteArray) (r : List ByteArray) (w : World) (hr1 : Kd.C Kd.string w A1 kw.length kw) (hc1 : kw.length ≤ c1) (h : spec_PlacesSorted.f x kw = some r) :
    Calls Tryd.prog 14 #[.string x, .slice A1 kw.length c1] w fun e w' => ∃ v0_ : Value, e = .returned v0_ ∧ Kd.R Kd.string 9 w' w.heap.size (fun _ => True) v0_ r ∧ Below w.heap.size w w' := by
  unfold spec_PlacesSorted.f at h
  split at h
  case isFalse => cases h
  rename_i hok
  injection h with h
  subst h
  exact specSorted_calls w x A1 c1 kw hr1 hc1 hok.1 hok.2.1 hok.2.2
end Go.Proofs.YthecfligfhpccaaDoor.P
namespace Go.Proofs.YthecfligfhpccaaDoor.Li
open Go.RowKit Go.Proofs.YthecfligfhpccaaDoorW.PrintWords
/-- The places of p ahead of n, downwards. -/
def allPos (s p : List Int) : Nat → List Int
  | 0 => []
  | n + 1 => if at_ s p n then (n : Int) :: allPos s p n else allPos s p n
theorem allPos_succ (s p : List Int) (n : Nat) : allPos s p (n + 1) = if at_ s p n then (n : Int) :: allPos s p n else allPos s p n := rfl
theorem allPos_lt (s p : List Int) : ∀ n, ∀ x ∈ allPos s p n, 0 ≤ x ∧ x < n := by
  intro n
  induction n with
  | zero => intro x hx; simp [allPos] at hx
  | succ n ih =>
    intro x hx
    rw [allPos_succ] at hx
    split at hx
    · rcases List.mem_cons.1 hx with e | e
      · subst e; omega
      · have := ih x e; omega
    · have := ih x hx; omega
theorem at_fit {s p : List Int} {i : Nat} (h : at_ s p i = true) (hp : 1 ≤ p.length) : i + p.length ≤ s.length := by
  unfold at_ at h
  have := congrArg List.length (eq_of_beq h)
  rw [List.length_take, List.length_drop] at this
  omega
theorem at_take {s p : List Int} {i j : Nat} (h : j + p.length ≤ i) (hi : i ≤ s.length) : at_ (s.take i) p j = at_ s p j := by
  unfold at_
  rw [List.drop_take, List.take_take]
  congr 2
  omega
theorem seek_all (s p : List Int) : ∀ n, seek s p n = (allPos s p (n + 1)).head?.getD (-1) := by
  intro n
  induction n with
  | zero => unfold seek; rw [allPos_succ]; split <;> simp [allPos]
  | succ n ih =>
    unfold seek
    rw [ih]
    rw [show allPos s p (n + 1 + 1) = if at_ s p (n + 1) then ((n + 1 : Nat) : Int) :: allPos s p (n + 1) else allPos s p (n + 1) from rfl]
    split <;> simp
theorem seek_take {s p : List Int} {i : Nat} (hi : i ≤ s.length) : ∀ n, n + p.length ≤ i → seek (s.take i) p n = seek s p n := by
  intro n
  induction n with
  | zero => intro h; unfold seek; rw [at_take h hi]
  | succ n ih => intro h; unfold seek; rw [at_take h hi, ih (by omega)]
/-- No place is above the last one that fits. -/
theorem allPos_cut (s p : List Int) (hp : 1 ≤ p.length) (n : Nat) (h : s.length < n + p.length) : ∀ m, n ≤ m → allPos s p m = allPos s p n := by
  intro m
  induction m with
  | zero => intro h2; have : n = 0 := by omega
            rw [this]
  | succ m ih =>
    intro h2
    by_cases e : n = m + 1
    · rw [e]
    · rw [allPos_succ, if_neg (fun g => by have := at_fit g hp; omega), ih (by omega)]
/-- Each place ends where the one behind it begins, or ahead of it. -/
def Apart (n : Nat) (l : List Int) : Prop := l.Pairwise (fun a b : Int => b + (n : Int) ≤ a)
theorem allPos_low (s p : List Int) (m : Nat) : ∀ n, n ≤ m → (∀ x ∈ allPos s p m, x + p.length ≤ n + p.length - 1) → allPos s p m = allPos s p n := by
  induction m with
  | zero => intro n h _; have : n = 0 := by omega
            rw [this]
  | succ m ih =>
    intro n h hx
    by_cases e : n = m + 1
    · rw [e]
    · have hm : at_ s p m = false := by
        cases g : at_ s p m with
        | false => rfl
        | true =>
          have := hx m (by rw [allPos_succ, if_pos g]; exact List.mem_cons_self)
          omega
      have e2 : allPos s p (m + 1) = allPos s p m := by rw [allPos_succ, if_neg (by rw [hm]; simp)]
      rw [e2] at hx ⊢
      exact ih n (by omega) hx
theorem occ_all (s p : List Int) (hp : 1 ≤ p.length) : ∀ (f i : Nat), i ≤ s.length → i < f → (∀ x ∈ allPos s p i, x + p.length ≤ i) → Apart p.length (allPos s p i) → occ s p f i = allPos s p i := by
  intro f
  induction f with
  | zero => intro i _ h; omega
  | succ f ih =>
    intro i hi hf hx hA
    have hl : (s.take i).length = i := by rw [List.length_take]; omega
    have hlast : lastIx (s.take i) p = (allPos s p i).head?.getD (-1) := by
      unfold lastIx
      rw [hl]
      by_cases hlt : i < p.length
      · rw [if_pos hlt]
        cases h : allPos s p i with
        | nil => rfl
        | cons a l =>
          have h1 := hx a (by rw [h]; exact List.mem_cons_self)
          have h2 := allPos_lt s p i a (by rw [h]; exact List.mem_cons_self)
          omega
      · rw [if_neg hlt, seek_take hi _ (by omega), seek_all, ← allPos_low s p i (i - p.length + 1) (by omega) (fun x h => by have := hx x h; omega)]
    simp only [occ]
    rw [hlast]
    cases h : allPos s p i with
    | nil => simp
    | cons a l =>
      have hm : a ∈ allPos s p i := by rw [h]; exact List.mem_cons_self
      have h1 := hx a hm
      have h2 := allPos_lt s p i a hm
      obtain ⟨n, rfl⟩ : ∃ n : Nat, a = (n : Int) := ⟨a.toNat, by omega⟩
      have hn : allPos s p i = (n : Int) :: allPos s p n := by
        have h3 : allPos s p i = allPos s p (n + 1) := by
          refine allPos_low s p i (n + 1) (by omega) (fun x hxm => ?_)
          rw [h] at hxm
          have hA := hA
          rw [h] at hA
          unfold Apart at hA
          rcases List.mem_cons.1 hxm with e | e
          · subst e; omega
          · have := (List.pairwise_cons.1 hA).1 x e; omega
        rw [h3]
        rw [allPos_succ]
        by_cases g : at_ s p n = true
        · rw [if_pos g]
        · exfalso
          rw [h3] at hm
          rw [allPos_succ, if_neg g] at hm
          have := allPos_lt s p n _ hm
          omega
      rw [hn] at h
      injection h with _ h
      rw [← h]
      rw [hn] at hA
      unfold Apart at hA
      have hA2 := List.pairwise_cons.1 hA
      have hd1 : ((n : Int) :: allPos s p n).head?.getD (-1) = (n : Int) := rfl
      rw [hd1, if_neg (by omega), Int.toNat_natCast, ih n (by omega) (by omega) (fun x hxm => hA2.1 x hxm) hA2.2]
/-- Where no place runs into the next, FindAllOccs tells all. -/
theorem occs_all (s p : List Int) (hp : 1 ≤ p.length) (N : Nat) (hN : s.length < N + p.length) (hA : Apart p.length (allPos s p N)) : occs s p = allPos s p N := by
  have hfit : ∀ m, ∀ x ∈ allPos s p m, x + p.length ≤ s.length := by
    intro m
    induction m with
    | zero => intro x hx; simp [allPos] at hx
    | succ m ih =>
      intro x hx
      rw [allPos_succ] at hx
      split at hx
      · rename_i g
        rcases List.mem_cons.1 hx with e | e
        · subst e; have := at_fit g hp; omega
        · exact ih x e
      · exact ih x hx
  have h1 : allPos s p s.length = allPos s p N := by
    by_cases h : N ≤ s.length
    · exact allPos_cut s p hp N hN _ h
    · refine (allPos_low s p N s.length (by omega) (fun x hx => ?_)).symm
      have := hfit N x hx
      omega
  unfold occs
  rw [occ_all s p hp (s.length + 1) s.length (Nat.le_refl _) (by omega) (hfit _) (by rw [h1]; exact hA), h1]
/-! ### What the map holds -/
theorem putM_new {β : Type} : ∀ (D : List (ByteArray × β)) (k : ByteArray) (v : β), k ∉ D.map (·.1) → putM D k v = D ++ [(k, v)]
  | [], _, _, _ => rfl
  | p :: D, k, v, h => by
    simp only [List.map_cons, List.mem_cons, not_or] at h
    unfold putM
    rw [if_neg (fun e => h.1 e.symm), putM_new D k v h.2]
    rfl
theorem getM_new {β : Type} : ∀ (D : List (ByteArray × β)) (k : ByteArray), k ∉ D.map (·.1) → getM D k = none
  | [], _, _ => rfl
  | p :: D, k, h => by
    simp only [List.map_cons, List.mem_cons, not_or] at h
    unfold getM
    rw [if_neg (fun e => h.1 e.symm), getM_new D k h.2]
theorem getM_last {β : Type} : ∀ (D : List (ByteArray × β)) (k : ByteArray) (v : β), k ∉ D.map (·.1) → getM (D ++ [(k, v)]) k = some v
  | [], k, v, _ => by simp [getM]
  | p :: D, k, v, h => by
    simp only [List.map_cons, List.mem_cons, not_or] at h
    show getM (p :: (D ++ [(k, v)])) k = _
    unfold getM
    rw [if_neg (fun e => h.1 e.symm), getM_last D k v h.2]
theorem putM_last {β : Type} : ∀ (D : List (ByteArray × β)) (k : ByteArray) (v u : β), k ∉ D.map (·.1) → putM (D ++ [(k, v)]) k u = D ++ [(k, u)]
  | [], k, v, u, _ => by simp [putM]
  | p :: D, k, v, u, h => by
    simp only [List.map_cons, List.mem_cons, not_or] at h
    show putM (p :: (D ++ [(k, v)])) k u = _
    unfold putM
    rw [if_neg (fun e => h.1 e.symm), putM_last D k v u h.2]
    rfl
theorem addAll_last (D : List (ByteArray × List Int)) (k : ByteArray) (h : k ∉ D.map (·.1)) : ∀ (ms l : List Int), addAll (D ++ [(k, l)]) k ms = D ++ [(k, l ++ ms)]
  | [], l => by simp [addAll]
  | m :: ms, l => by
    show addAll (addM (D ++ [(k, l)]) k m) k ms = _
    unfold addM
    rw [getM_last D k l h, putM_last D k l _ h]
    simp only [Option.getD_some]
    rw [addAll_last D k h ms (l ++ [m])]
    simp
theorem addAll_new (D : List (ByteArray × List Int)) (k : ByteArray) (h : k ∉ D.map (·.1)) (ms : List Int) : addAll D k ms = if ms = [] then D else D ++ [(k, ms)] := by
  cases ms with
  | nil => rfl
  | cons m ms =>
    rw [if_neg (by simp)]
    show addAll (addM D k m) k ms = _
    unfold addM
    rw [getM_new D k h, putM_new D k _ h]
    simp only [Option.getD_none, List.nil_append]
    rw [addAll_last D k h ms [m]]
    rfl
/-- The parts that stand in the text, each with its places. -/
def found (s : List Int) (kw : List ByteArray) : List (ByteArray × List Int) := (kw.filter fun p => !(occs s (bytesOf p)).isEmpty).map fun p => (p, occs s (bytesOf p))
theorem found_keys (s : List Int) (kw : List ByteArray) : (found s kw).map (·.1) = kw.filter fun p => !(occs s (bytesOf p)).isEmpty := by
  unfold found
  rw [List.map_map]
  have : ((fun x : ByteArray × List Int => x.1) ∘ fun p => (p, occs s (bytesOf p))) = id := rfl
  rw [this, List.map_id]
theorem foldM_found (s : List Int) (kw : List ByteArray) (hd : kw.Nodup) : foldM s kw = found s kw := by
  have key : ∀ (l pre : List ByteArray), (pre ++ l).Nodup → l.foldl (fun D p => addAll D p (occs s (bytesOf p))) (found s pre) = found s (pre ++ l) := by
    intro l
    induction l with
    | nil => intro pre _; simp
    | cons p l ih =>
      intro pre h
      rw [List.foldl_cons]
      have hnot : p ∉ (found s pre).map (·.1) := by
        rw [found_keys]
        intro hm
        have hm2 := (List.mem_filter.1 hm).1
        rw [List.nodup_append] at h
        exact h.2.2 p hm2 p List.mem_cons_self rfl
      rw [addAll_new _ _ hnot]
      have e : (if occs s (bytesOf p) = [] then found s pre else found s pre ++ [(p, occs s (bytesOf p))]) = found s (pre ++ [p]) := by
        unfold found
        rw [List.filter_append, List.map_append]
        by_cases g : occs s (bytesOf p) = []
        · rw [if_pos g]; simp [g]
        · rw [if_neg g]
          have : (occs s (bytesOf p)).isEmpty = false := by cases hh : occs s (bytesOf p) with
            | nil => exact absurd hh g
            | cons a l => rfl
          simp [this]
      rw [e, ih (pre ++ [p]) (by simpa using h)]
      simp
  have := key kw [] (by simpa using hd)
  simpa [foldM, found] using this
theorem getM_found (s : List Int) (p : ByteArray) : ∀ (kw : List ByteArray), p ∈ kw → (getM (found s kw) p).getD [] = occs s (bytesOf p)
  | [], h => by cases h
  | q :: kw, h => by
    unfold found
    rw [List.filter_cons]
    by_cases e : q = p
    · subst e
      by_cases g : occs s (bytesOf q) = []
      · rw [if_neg (by simp [g])]
        by_cases hm : q ∈ kw
        · exact getM_found s q kw hm
        · rw [show List.map (fun p => (p, occs s (bytesOf p))) (kw.filter fun p => !(occs s (bytesOf p)).isEmpty) = found s kw from rfl, getM_new _ _ (by rw [found_keys]; exact fun hq => hm (List.mem_filter.1 hq).1), g]
          rfl
      · have : (occs s (bytesOf q)).isEmpty = false := by cases hh : occs s (bytesOf q) with
          | nil => exact absurd hh g
          | cons a l => rfl
        rw [if_pos (by simp [this])]
        simp [getM]
    · have hm : p ∈ kw := by rcases List.mem_cons.1 h with a | a; exact absurd a.symm e; exact a
      have ih := getM_found s p kw hm
      unfold found at ih
      by_cases g : (!(occs s (bytesOf q)).isEmpty) = true
      · rw [if_pos g]
        rw [List.map_cons]
        unfold getM
        rw [if_neg e]
        exact ih
      · rw [if_neg g]; exact ih
end Go.Proofs.YthecfligfhpccaaDoor.Li
namespace Go.Proofs.YthecfligfhpccaaDoor.Li
open Go.RowKit Go.Proofs.YthecfligfhpccaaDoorW.PrintWords
theorem bmap_inj : ∀ (a b : List UInt8), a.map (fun c : UInt8 => (c.toNat : Int)) = b.map (fun c : UInt8 => (c.toNat : Int)) → a = b
  | [], [], _ => rfl
  | [], _ :: _, h => by cases h
  | _ :: _, [], h => by cases h
  | c :: a, y :: b, h => by
    simp only [List.map_cons, List.cons.injEq] at h
    rw [bmap_inj a b h.2, UInt8.toNat_inj.1 (by omega : c.toNat = y.toNat)]
/-- A cut is p just where p stands. -/
theorem cut_at (x p : ByteArray) (t : Nat) (ht : t + p.size ≤ x.size) : ((x.extract t (t + p.size)).toList == p.toList) = at_ (bytesOf x) (bytesOf p) t := by
  have e : (x.extract t (t + p.size)).toList = (x.data.toList.drop t).take p.size := by
    rw [Go.ByteArray.toList_eq, ByteArray.data_extract, Array.toList_extract, List.extract_eq_take_drop]
    congr 1
    omega
  rw [e, Go.ByteArray.toList_eq]
  unfold at_
  rw [bytesOf_length p]
  unfold bytesOf
  rw [← List.map_drop, ← List.map_take, Bool.eq_iff_iff]
  simp only [beq_iff_eq]
  exact ⟨fun h => by rw [h], fun h => bmap_inj _ _ h⟩
theorem isIn_iff (x p : ByteArray) : ∀ n, n + p.size ≤ x.size + 1 → (isIn x p n = true ↔ ∃ j, j < n ∧ at_ (bytesOf x) (bytesOf p) j = true) := by
  intro n
  induction n with
  | zero => intro _; exact ⟨fun h => (by cases h), fun ⟨j, h, _⟩ => (by omega)⟩
  | succ n ih =>
    intro h
    unfold isIn
    rw [Bool.or_eq_true, ih (by omega), cut_at x p n (by omega)]
    constructor
    · rintro (⟨j, h1, h2⟩ | h2)
      · exact ⟨j, by omega, h2⟩
      · exact ⟨n, by omega, h2⟩
    · rintro ⟨j, h1, h2⟩
      by_cases e : j = n
      · subst e; exact .inr h2
      · exact .inl ⟨j, by omega, h2⟩
theorem seek_none (s p : List Int) : ∀ n, seek s p n = -1 → ∀ j, j ≤ n → at_ s p j = false := by
  intro n
  induction n with
  | zero =>
    intro h j hj
    obtain rfl : j = 0 := by omega
    unfold seek at h
    cases g : at_ s p 0 with
    | false => rfl
    | true => rw [g] at h; simp at h
  | succ n ih =>
    intro h j hj
    unfold seek at h
    cases g : at_ s p (n + 1) with
    | true => rw [g] at h; simp at h; omega
    | false =>
      rw [g] at h
      simp at h
      by_cases e : j = n + 1
      · subst e; exact g
      · exact ih h j (by omega)
theorem occs_some (x p : ByteArray) (hp : 1 ≤ p.size) : occs (bytesOf x) (bytesOf p) ≠ [] ↔ isIn x p (x.size + 1 - p.size) = true := by
  have hx := bytesOf_length x
  have hq := bytesOf_length p
  have e : occs (bytesOf x) (bytesOf p) ≠ [] ↔ lastIx (bytesOf x) (bytesOf p) ≠ -1 := by
    unfold occs
    simp only [occ, List.take_length]
    constructor
    · intro h g; exact h (by rw [if_pos g])
    · intro h; rw [if_neg h]; simp
  rw [e]
  by_cases hlt : x.size < p.size
  · have h0 : x.size + 1 - p.size = 0 := by omega
    rw [h0]
    unfold lastIx
    rw [if_pos (by omega)]
    exact ⟨fun h => absurd rfl h, fun h => by cases h⟩
  · rw [isIn_iff x p _ (by omega)]
    unfold lastIx
    rw [if_neg (by omega), hx, hq]
    constructor
    · intro h
      rcases seek_range (bytesOf x) (bytesOf p) (x.size - p.size) with g | ⟨g1, g2, g3⟩
      · exact absurd g h
      · exact ⟨_, by omega, g3⟩
    · rintro ⟨j, h1, h2⟩ g
      have := seek_none _ _ _ g j (by omega)
      rw [h2] at this
      cases this
/-! ### Sorted, each once -/
def SSrt (l : List ByteArray) : Prop := l.Pairwise (fun a b => a.data.toList < b.data.toList)
theorem insD_mem (p q : ByteArray) : ∀ l, q ∈ insD p l ↔ q = p ∨ q ∈ l
  | [] => by simp [insD]
  | x :: l => by
    unfold insD
    split
    · rw [List.mem_cons, insD_mem p q l, List.mem_cons]
      constructor
      · rintro (h | h | h)
        · exact .inr (.inl h)
        · exact .inl h
        · exact .inr (.inr h)
      · rintro (h | h | h)
        · exact .inr (.inl h)
        · exact .inl h
        · exact .inr (.inr h)
    · split
      · rename_i e
        rw [List.mem_cons]
        constructor
        · intro h; exact .inr h
        · rintro (h | h)
          · exact .inl (by rw [h, e])
          · exact h
      · rw [List.mem_cons]
theorem insD_srt (p : ByteArray) : ∀ {l}, SSrt l → SSrt (insD p l)
  | [], _ => by unfold insD SSrt; simp
  | x :: l, h => by
    unfold SSrt at h
    rw [List.pairwise_cons] at h
    unfold insD
    split
    · rename_i hlt
      unfold SSrt
      rw [List.pairwise_cons]
      refine ⟨fun y hy => ?_, insD_srt p h.2⟩
      rcases (insD_mem p y l).1 hy with e | e
      · subst e; exact hlt
      · exact h.1 y e
    · rename_i hlt
      split
      · unfold SSrt; rw [List.pairwise_cons]; exact h
      · rename_i hne
        have hle : p.data.toList ≤ x.data.toList := Std.not_lt.1 hlt
        have hpx : p.data.toList < x.data.toList := by
          by_cases g : x.data.toList ≤ p.data.toList
          · exact absurd (bytes_ext (Std.le_antisymm g hle)) hne
          · exact Std.not_le.1 g
        unfold SSrt
        rw [List.pairwise_cons]
        refine ⟨fun y hy => ?_, List.pairwise_cons.2 h⟩
        rcases List.mem_cons.1 hy with e | e
        · subst e; exact hpx
        · exact Std.lt_trans hpx (h.1 y e)
theorem SSrt.nodup {l : List ByteArray} (h : SSrt l) : l.Nodup := by
  unfold SSrt at h
  exact h.imp (fun {a b} hab e => by subst e; exact Std.lt_irrefl hab)
theorem SSrt.srt {l : List ByteArray} (h : SSrt l) : Da.Srt l := by
  unfold SSrt at h
  unfold Da.Srt
  exact h.imp (fun hab => Std.le_of_lt hab)
theorem specPS_go (s : ByteArray) : ∀ (kw out : List ByteArray), SSrt out → SSrt (kw.foldl (fun out p => if isIn s p (s.size + 1 - p.size) then insD p out else out) out) ∧
    ∀ q, q ∈ kw.foldl (fun out p => if isIn s p (s.size + 1 - p.size) then insD p out else out) out ↔ q ∈ out ∨ (q ∈ kw ∧ isIn s q (s.size + 1 - q.size) = true)
  | [], out, h => ⟨h, fun q => by simp⟩
  | p :: kw, out, h => by
    rw [List.foldl_cons]
    by_cases hp : isIn s p (s.size + 1 - p.size) = true
    · rw [if_pos hp]
      obtain ⟨h1, h2⟩ := specPS_go s kw (insD p out) (insD_srt p h)
      refine ⟨h1, fun q => ?_⟩
      rw [h2 q, insD_mem, List.mem_cons]
      constructor
      · rintro ((e | e) | ⟨e1, e2⟩)
        · exact .inr ⟨.inl e, by rw [e]; exact hp⟩
        · exact .inl e
        · exact .inr ⟨.inr e1, e2⟩
      · rintro (e | ⟨e1 | e1, e2⟩)
        · exact .inl (.inr e)
        · exact .inl (.inl e1)
        · exact .inr ⟨e1, e2⟩
    · rw [if_neg hp]
      obtain ⟨h1, h2⟩ := specPS_go s kw out h
      refine ⟨h1, fun q => ?_⟩
      rw [h2 q, List.mem_cons]
      constructor
      · rintro (e | ⟨e1, e2⟩)
        · exact .inl e
        · exact .inr ⟨.inr e1, e2⟩
      · rintro (e | ⟨e1 | e1, e2⟩)
        · exact .inl e
        · exact absurd (by rw [← e1]; exact e2) hp
        · exact .inr ⟨e1, e2⟩
/-! ### The map's keys -/
theorem keys_some {β : Type} : ∀ (D : List (ByteArray × β)) (k : ByteArray), k ∈ D.map (·.1) ↔ (getM D k).isSome = true
  | [], k => by simp [getM]
  | p :: D, k => by
    unfold getM
    rw [List.map_cons, List.mem_cons]
    by_cases e : p.1 = k
    · rw [if_pos e]; simp [e]
    · rw [if_neg e, ← keys_some D k]
      exact ⟨fun h => h.resolve_left (fun g => e g.symm), fun h => .inr h⟩
theorem putM_keys2 {β : Type} : ∀ (D : List (ByteArray × β)) (k : ByteArray) (v : β), (D.map (·.1)).Nodup → ((putM D k v).map (·.1)).Nodup
  | [], k, v, _ => by simp [putM]
  | p :: D, k, v, h => by
    rw [List.map_cons, List.nodup_cons] at h
    unfold putM
    by_cases e : p.1 = k
    · rw [if_pos e, List.map_cons, List.nodup_cons]; rw [← e]; exact h
    · rw [if_neg e, List.map_cons, List.nodup_cons]
      refine ⟨fun hm => ?_, putM_keys2 D k v h.2⟩
      rw [keys_some, getM_putM, if_neg e, ← keys_some] at hm
      exact h.1 hm
theorem addAll_nodup (p : ByteArray) : ∀ (ms : List Int) (D : List (ByteArray × List Int)), (D.map (·.1)).Nodup → ((addAll D p ms).map (·.1)).Nodup
  | [], D, h => h
  | m :: ms, D, h => addAll_nodup p ms (addM D p m) (putM_keys2 D p _ h)
theorem foldM_keys (s : List Int) : ∀ (kw : List ByteArray) (D : List (ByteArray × List Int)), (D.map (·.1)).Nodup → ((kw.foldl (fun D p => addAll D p (occs s (bytesOf p))) D).map (·.1)).Nodup ∧
    ∀ q, q ∈ (kw.foldl (fun D p => addAll D p (occs s (bytesOf p))) D).map (·.1) ↔ q ∈ D.map (·.1) ∨ (q ∈ kw ∧ occs s (bytesOf q) ≠ [])
  | [], D, h => ⟨h, fun q => by simp⟩
  | p :: kw, D, h => by
    rw [List.foldl_cons]
    obtain ⟨h1, h2⟩ := foldM_keys s kw (addAll D p (occs s (bytesOf p))) (addAll_nodup p _ D h)
    refine ⟨h1, fun q => ?_⟩
    rw [h2 q, keys_some, getM_addAll, List.mem_cons]
    by_cases e : q = p ∧ occs s (bytesOf p) ≠ []
    · rw [if_pos e]
      constructor
      · intro _; exact .inr ⟨.inl e.1, by rw [e.1]; exact e.2⟩
      · intro _; exact .inl rfl
    · rw [if_neg e, ← keys_some]
      constructor
      · rintro (g | ⟨g1, g2⟩)
        · exact .inl g
        · exact .inr ⟨.inr g1, g2⟩
      · rintro (g | ⟨g1 | g1, g2⟩)
        · exact .inl g
        · exact absurd ⟨g1, by rw [← g1]; exact g2⟩ e
        · exact .inr ⟨g1, g2⟩
/-- The package's sorted keys are the reference's. -/
theorem sorted_same (x : ByteArray) (kw : List ByteArray) (hne : ∀ p ∈ kw, 1 ≤ p.size) : isort ((foldM (bytesOf x) kw).map (·.1)) = specPS x kw := by
  obtain ⟨h1, h2⟩ := foldM_keys (bytesOf x) kw [] (by simp)
  obtain ⟨g1, g2⟩ := specPS_go x kw [] (by unfold SSrt; simp)
  have hp : ((foldM (bytesOf x) kw).map (·.1)).Perm (specPS x kw) := by
    refine (List.perm_ext_iff_of_nodup h1 g1.nodup).2 (fun q => ?_)
    show q ∈ (foldM (bytesOf x) kw).map (·.1) ↔ q ∈ specPS x kw
    rw [show q ∈ (foldM (bytesOf x) kw).map (·.1) ↔ _ from h2 q, show q ∈ specPS x kw ↔ _ from g2 q]
    simp only [List.map_nil, List.not_mem_nil, false_or]
    constructor
    · rintro ⟨e1, e2⟩; exact ⟨e1, (occs_some x q (hne q e1)).1 e2⟩
    · rintro ⟨e1, e2⟩; exact ⟨e1, (occs_some x q (hne q e1)).2 e2⟩
  exact srt_unique (isort_srt _) g1.srt ((isort_perm _).trans hp)
/-! ### The places, from the end on -/
theorem lastIx_step (s p : List Int) (hp : 1 ≤ p.length) (i : Nat) (hi : i ≤ s.length) (h : p.length ≤ i) : lastIx (s.take i) p = if at_ s p (i - p.length) then ((i - p.length : Nat) : Int) else lastIx (s.take (i - 1)) p := by
  have l1 : (s.take i).length = i := by rw [List.length_take]; omega
  have l2 : (s.take (i - 1)).length = i - 1 := by rw [List.length_take]; omega
  have e1 : lastIx (s.take i) p = seek s p (i - p.length) := by
    unfold lastIx
    rw [l1, if_neg (by omega), seek_take hi _ (by omega)]
  rw [e1]
  by_cases e : i - p.length = 0
  · have e2 : lastIx (s.take (i - 1)) p = -1 := by
      unfold lastIx
      rw [l2, if_pos (by omega)]
    rw [e2, e]
    unfold seek
    rfl
  · obtain ⟨n, hn⟩ : ∃ n, i - p.length = n + 1 := ⟨i - p.length - 1, by omega⟩
    have e2 : lastIx (s.take (i - 1)) p = seek s p n := by
      unfold lastIx
      rw [l2, if_neg (by omega), show i - 1 - p.length = n by omega, seek_take (by omega) _ (by omega)]
    rw [e2, hn]
    rfl
theorem occ_step (s p : List Int) (hp : 1 ≤ p.length) (f i : Nat) (hi : i ≤ s.length) (h : p.length ≤ i) : occ s p (f + 1) i = if at_ s p (i - p.length) then ((i - p.length : Nat) : Int) :: occ s p f (i - p.length) else occ s p (f + 1) (i - 1) := by
  simp only [occ]
  rw [lastIx_step s p hp i hi h]
  by_cases g : at_ s p (i - p.length) = true
  · rw [if_pos g, if_neg (by omega), if_pos g, Int.toNat_natCast]
  · rw [if_neg g, if_neg g]
theorem occ_short (s p : List Int) (f i : Nat) (hi : i ≤ s.length) (h : i < p.length) : occ s p f i = [] := by
  cases f with
  | zero => rfl
  | succ f =>
    simp only [occ]
    rw [if_pos]
    unfold lastIx
    rw [List.length_take, if_pos (by omega)]
end Go.Proofs.YthecfligfhpccaaDoor.Li
