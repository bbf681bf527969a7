/- One call of ScanSentences: the walk. -/
import Derived.Test.YtpjnebmcbeblkaaDoorESnD
import Derived.Deep.DeepCutAuto
set_option linter.unusedVariables false
namespace Go.Proofs.YtpjnebmcbeblkaaDoor.Sn
open Go.RowKit Go.Lib Go.Proofs.YtpjnebmcbeblkaaDoorW.PrintWords Go.Proofs.YtpjnebmcbeblkaaDoor.Gn Go.Proofs.YtpjnebmcbeblkaaDoor.X
/-- The token: bytes st to en of the window. -/
def tokV (b off cap st en : Nat) : Value := .slice (if cap = st then some ⟨b, off, none⟩ else some ⟨b, off + st, none⟩) (en - st) (cap - st)
/-- What the call's end tells: how far it went, the token, the bytes. -/
def Told (w : World) (b M off cap n : Nat) (r : Out) (e : Ending) (w' : World) : Prop :=
  ∃ tv : Value, e = .returned (.tuple #[.int .i64 r.adv, tv, .nilIface]) ∧ Win w' b M off r.data ∧ r.data.size = n ∧ Chg [b] w w' ∧
    match r.tok with
    | none => tv = .slice none 0 0
    | some (st, en) => st ≤ en ∧ en ≤ r.data.size ∧ tv = tokV b off cap st en
/-- The state of the walk: the window holds d, the struct's variable holds bx, nothing else that was there is changed. -/
structure St (w : World) (b M off : Nat) (o : Sp) (A0 A1 : Option Addr) (c0 c1 : Nat) (d : ByteArray) (W : World) : Prop where
  win : Win W b M off d
  chg : Chg [b] w W
  box : W.heap[w.heap.size]? = some (.cells #[.slice A0 o.ends.length c0, .slice A1 o.fol.length c1, .bool o.skip, .bool o.lines, .int .i64 o.max] 52 (0, 0))
theorem St.next {w : World} {b M off : Nat} {o : Sp} {A0 A1 : Option Addr} {c0 c1 : Nat} {d : ByteArray} {W W' : World} (h : St w b M off o A0 A1 c0 c1 d W) (hc : Chg [] W W') : St w b M off o A0 A1 c0 c1 d W' :=
  ⟨h.win.chg hc (by simp), h.chg.trans (hc.mono (by simp)), (hc.block _ (Array.getElem?_eq_some_iff.1 h.box).1 (by simp)).trans h.box⟩
theorem St.cells {w : World} {b M off : Nat} {o : Sp} {A0 A1 : Option Addr} {c0 c1 : Nat} {d : ByteArray} {W : World} (h : St w b M off o A0 A1 c0 c1 d W) :
    W.cell? ⟨w.heap.size, 0, none⟩ = some (.slice A0 o.ends.length c0) ∧ W.cell? ⟨w.heap.size, 1, none⟩ = some (.slice A1 o.fol.length c1) ∧ W.cell? ⟨w.heap.size, 2, none⟩ = some (.bool o.skip) ∧ W.cell? ⟨w.heap.size, 3, none⟩ = some (.bool o.lines) ∧ W.cell? ⟨w.heap.size, 4, none⟩ = some (.int .i64 o.max) := by
  have := h.box
  refine ⟨?_, ?_, ?_, ?_, ?_⟩ <;> simp [World.cell?, this]
theorem St.set {w : World} {b M off : Nat} {o : Sp} {A0 A1 : Option Addr} {c0 c1 : Nat} {d : ByteArray} {W : World} (h : St w b M off o A0 A1 c0 c1 d W) (hb : b < w.heap.size) (i : Nat) (hi : i < d.size) (v : UInt8) : St w b M off o A0 A1 c0 c1 (setB d i v) (W.setCell ⟨b, off + i, none⟩ (.int .u8 (v.toNat : Int))) :=
  ⟨h.win.set i hi v, h.chg.setCell (.inl (by simp)) _, (Below.heap_setCell W _ _ _ (fun g => by have : w.heap.size = b := g; omega)).trans h.box⟩
theorem told_tok {w : World} {b M off : Nat} {o : Sp} {A0 A1 : Option Addr} {c0 c1 : Nat} {d : ByteArray} {W : World} (h : St w b M off o A0 A1 c0 c1 d W) (adv st en : Nat) {cap n : Nat} {R : Out} (h1 : st ≤ en) (h2 : en ≤ n) (h3 : st < cap) (hd : d.size = n) (hR : R = ⟨adv, some (st, en), d⟩) (m : Nat) :
    Told w b M off cap n R (.returned (.tuple #[.int .i64 (adv : Int), .slice (some ⟨b, off + st, none⟩) (en - st) (cap - st), .nilIface])) (W.drewN m) := by
  subst hR
  exact ⟨_, rfl, h.win.block rfl, hd, h.chg.drewN m, h1, by rw [hd]; exact h2, by unfold tokV; rw [if_neg (by omega)]⟩
/-- Every state reads the rows and the tables. -/
def Env (w : World) (b M off : Nat) (o : Sp) (A0 A1 : Option Addr) (c0 c1 : Nat) : Prop := ∀ W, Chg [b] w W → Rd o A0 A1 c0 c1 W ∧ Tabs W
set_option maxHeartbeats 4000000 in
set_option maxRecDepth 100000 in
theorem scan_calls (w : World) (b M off cap : Nat) (s : ByteArray) (A0 A1 : Option Addr) (c0 c1 : Nat) (o : Sp) (eof : Bool) (hW : Win w b M off s) (hl : s.size ≤ 1000000) (hcap : s.size ≤ cap) (hR : Env w b M off o A0 A1 c0 c1) :
    Calls Tryd.prog 26 #[.agg #[.slice A0 o.ends.length c0, .slice A1 o.fol.length c1, .bool o.skip, .bool o.lines, .int .i64 o.max], .slice (some ⟨b, off, none⟩) s.size cap, .bool eof] w (Told w b M off cap s.size (call o s eof)) := by
  have HW := Aside0.mk hW
  have HR := Aside0.mk hR
  clear hW hR
  by_cases hz : eof = true ∧ s.size = 0
  · obtain ⟨rfl, hz⟩ := hz
    have q1 : ((s.size : Int) == 0) = true := by rw [hz]; rfl
    go_enter Tryd.func26, Tryd.ntmps26
    go_wp2_with fail
    go_ret3
    have hc : call o s true = ⟨0, none, s⟩ := by simp [call, hz]
    rw [hc]
    exact ⟨_, rfl, HW.out.alloc _, rfl, ((Chg.refl [b] w).alloc _), rfl⟩
  · have HQ : Aside0 (scan o eof (s.size + 1) s 0 0 0 0 true false = call o s eof) := ⟨by
      unfold call
      rw [if_neg (fun g => hz (by simpa using g))]⟩
    have HBX : Aside0 ((w.alloc (.cells #[.slice A0 o.ends.length c0, .slice A1 o.fol.length c1, .bool o.skip, .bool o.lines, .int .i64 o.max] 52 (0, 0))).heap[w.heap.size]? = some (.cells #[.slice A0 o.ends.length c0, .slice A1 o.fol.length c1, .bool o.skip, .bool o.lines, .int .i64 o.max] 52 (0, 0))) := ⟨heap_alloc_new _ _⟩
    go_enter Tryd.func26, Tryd.ntmps26
    go_upto_region 1 with fail
    go_cut [27] (fun v27 wx => v27 = .bool false ∧ Aside0 (St w b M off o A0 A1 c0 c1 s wx))
    case first =>
      cases eof with
      | false =>
        go_wp2_with fail
        go_meet
        exact ⟨rfl, ⟨HW.out.alloc _, (Chg.refl [b] w).alloc _, HBX.out⟩⟩
      | true =>
        have q1 : ((s.size : Int) == 0) = false := beq_eq_false_iff_ne.2 (fun g => hz ⟨rfl, by omega⟩)
        go_wp2_with fail
        go_meet
        exact ⟨rfl, ⟨HW.out.alloc _, (Chg.refl [b] w).alloc _, HBX.out⟩⟩
    case rest =>
      as_aux_lemma =>
      clear HBX
      obtain ⟨rfl, HS1⟩ := hcut
      go_wp2_with fail
      go_loopw [9, 10, 11, 12, 13, 14] (fun v9 v10 v11 v12 v13 v14 wr => ∃ (st e rc p k : Nat) (head nn : Bool) (d : ByteArray), v9 = .int .i64 st ∧ v10 = .int .i64 e ∧ v11 = .int .i64 rc ∧ v12 = .bool head ∧ v13 = .bool nn ∧ v14 = .int .i64 p ∧ Aside0 (st ≤ e ∧ e ≤ p ∧ p ≤ s.size ∧ d.size = s.size ∧ rc ≤ p ∧ s.size < p + k) ∧ Aside0 (St w b M off o A0 A1 c0 c1 d wr) ∧ Aside0 (scan o eof k d p st e rc head nn = call o s eof)) (fun _ _ _ _ _ v14 _ => s.size - (RowKit.intOf v14).toNat)
      case atStart => exact ⟨0, 0, 0, 0, s.size + 1, true, false, s, rfl, rfl, rfl, rfl, rfl, rfl, ⟨by omega⟩, HS1, HQ⟩
      case round =>
        as_aux_lemma =>
        clear HS1 HQ
        obtain ⟨st, e, rc, p, k, head, nn, d, rfl, rfl, rfl, rfl, rfl, rfl, HI, HS1, HQ⟩ := hrel
        have HBW : Aside0 (b < w.heap.size) := ⟨HW.out.lt⟩
        obtain ⟨hi1, hi2, hi3, hi4, hi5, hi6⟩ := HI.out
        by_cases hlt : p < s.size
        · have k1 : decide ((p : Int) < (s.size : Int)) = true := decide_eq_true (by omega)
          have k2 : decide (cap = p) = false := decide_eq_false (by omega)
          have hsg := sg_pos d p (by omega)
          have hsl := sg_le d p (by omega)
          have hsr := sg_rune d p (by omega)
          obtain ⟨r, hr⟩ : ∃ r, r = (sg d p).1 := ⟨_, rfl⟩
          obtain ⟨n, hn⟩ : ∃ n, n = (sg d p).2 := ⟨_, rfl⟩
          have HDEC := Aside0.mk (fun c => dec_calls wr b M off c d p (by omega) HS1.out.win (HR.out wr HS1.out.chg).2)
          rw [← hr] at hsr
          rw [← hn] at hsg hsl
          have HRN := Aside0.mk (And.intro hr hn)
          obtain ⟨k, rfl⟩ : ∃ k', k = k' + 1 := ⟨k - 1, by omega⟩
          have hq := HQ.out
          rw [scan, if_pos (by omega)] at hq
          simp only [← hr, ← hn] at hq
          have HQ2 := Aside0.mk hq
          clear hq HQ
          simp only [← hr, ← hn] at HDEC
          rw [hi4] at HDEC hsl
          clear hr hn
          go_upto_region 9 with (go_at_call 33; refine (HDEC.out _).mono ?_; rintro e w1 ⟨rfl, hd⟩; have HS2 := Aside0.mk (HS1.out.next hd); clear hd HDEC HS1)
          go_cut [44] (fun v44 wx => v44 = .bool (space o r) ∧ Aside0 (St w b M off o A0 A1 c0 c1 d wx))
          case first =>
            as_aux_lemma =>
            obtain ⟨-, -, x2, -, -⟩ := HS2.out.cells
            obtain ⟨sk, hsk⟩ : ∃ sk, sk = o.skip := ⟨_, rfl⟩
            rw [← hsk] at x2
            have HSK := Aside0.mk hsk
            clear hsk
            have HSP := Aside0.mk (space_calls (r : Int) w1 (by omega) (by omega) (HR.out w1 HS2.out.chg).2)
            cases sk with
            | false =>
              go_wp2_with fail
              go_meet
              exact ⟨by unfold space; rw [← HSK.out]; rfl, HS2⟩
            | true =>
              go_wp2_with (go_at_call 34; refine HSP.out.mono ?_; rintro e w2 ⟨rfl, hd⟩; have HS3 := Aside0.mk (HS2.out.next hd); clear hd HSP HS2)
              go_meet
              exact ⟨by unfold space; rw [← HSK.out]; rfl, HS3⟩
          case rest =>
            as_aux_lemma =>
            clear HS2
            obtain ⟨rfl, HS2⟩ := hcut
            obtain ⟨sp, hsp⟩ : ∃ sp, sp = space o r := ⟨_, rfl⟩
            rw [← hsp]
            have HSP := Aside0.mk hsp
            clear hsp
            cases sp with
            | true =>
              have hq := HQ2.out
              rw [if_pos HSP.out.symm] at hq
              have HQ3 := Aside0.mk hq
              clear hq HQ2
              cases head with
              | true =>
                have hq := HQ3.out
                rw [if_pos rfl] at hq
                have HQ4 := Aside0.mk hq
                clear hq HQ3
                go_wp2_with fail
                go_roundw
                case rel => exact ⟨p + n, p + n, rc, p + n, k, true, nn, d, by go_num, by go_num, rfl, rfl, rfl, by go_num, ⟨by omega⟩, HS2, HQ4⟩
                case measure => simp [RowKit.intOf]; omega
              | false =>
                have hq := HQ3.out
                rw [if_neg (by decide)] at hq
                have HQ4 := Aside0.mk hq
                clear hq HQ3
                go_upto_region 13 with fail
                go_cut [52] (fun v52 wx => v52 = .bool (isD o r) ∧ Aside0 (St w b M off o A0 A1 c0 c1 d wx))
                case first =>
                  as_aux_lemma =>
                  have HDL := Aside0.mk (delim_calls (HR.out _ HS2.out.chg).1 (r : Int))
                  obtain ⟨x0, x1, x2, x3, x4⟩ := HS2.out.cells
                  go_wp2_with (go_at_call 35; refine HDL.out.mono ?_; rintro e w2 ⟨rfl, hd⟩; have HS3 := Aside0.mk (HS2.out.next hd); clear hd HDL HS2)
                  go_meet
                  exact ⟨rfl, HS3⟩
                case rest =>
                  as_aux_lemma =>
                  clear HS2
                  obtain ⟨rfl, HS2⟩ := hcut
                  obtain ⟨dl, hdl⟩ : ∃ dl, dl = isD o r := ⟨_, rfl⟩
                  rw [← hdl]
                  have hq := HQ4.out
                  rw [← hdl] at hq
                  have HQ5 := Aside0.mk hq
                  clear hq HQ4 hdl
                  cases dl with
                  | true =>
                    have hq := HQ5.out
                    rw [if_pos rfl] at hq
                    have HQ6 := Aside0.mk hq
                    clear hq HQ5
                    have z1 : decide (st ≤ e) = true := decide_eq_true hi1
                    have z2 : decide (e ≤ cap) = true := decide_eq_true (by omega)
                    have z3 : decide ((st : Int) ≤ (e : Int)) = true := decide_eq_true (by omega)
                    have z4 : decide ((e : Int) ≤ (cap : Int)) = true := decide_eq_true (by omega)
                    go_wp2_with fail
                    go_quiet (fail)
                    go_wp2_with fail
                    go_ret3
                    as_aux_lemma => exact told_tok HS2.out (p + n) st e (by omega) (by omega) (by omega) hi4 HQ6.out.symm _
                  | false =>
                    have hq := HQ5.out
                    rw [if_neg (by decide)] at hq
                    have HQ6 := Aside0.mk hq
                    clear hq HQ5
                    go_upto_region 15 with fail
                    go_cut [61] (fun v61 wx => v61 = .bool (o.lines && ((r : Int) == 10)) ∧ Aside0 (St w b M off o A0 A1 c0 c1 d wx))
                    case first =>
                      as_aux_lemma =>
                      obtain ⟨-, -, -, x3, -⟩ := HS2.out.cells
                      obtain ⟨ln, hln⟩ : ∃ ln, ln = o.lines := ⟨_, rfl⟩
                      rw [← hln] at x3
                      obtain ⟨r10, hr10⟩ : ∃ r10, r10 = ((r : Int) == 10) := ⟨_, rfl⟩
                      have hr11 := hr10.symm
                      have HLN := Aside0.mk hln
                      clear hln hr10
                      as_aux_lemma =>
                      cases ln <;> cases r10
                      all_goals go_wp2_with fail
                      all_goals go_meet
                      all_goals exact ⟨by rw [← HLN.out, hr11]; rfl, HS2⟩
                    case rest =>
                      as_aux_lemma =>
                      clear HS2
                      obtain ⟨rfl, HS2⟩ := hcut
                      obtain ⟨lb, hlb⟩ : ∃ lb, lb = (o.lines && ((r : Int) == 10)) := ⟨_, rfl⟩
                      rw [← hlb]
                      have hq := HQ6.out
                      rw [← hlb] at hq
                      have HQ7 := Aside0.mk hq
                      clear hq HQ6 hlb
                      cases lb with
                      | true =>
                        cases nn with
                        | true =>
                          as_aux_lemma =>
                          have HQ8 : Aside0 (call o s eof = ⟨p + n, some (st, e), d⟩) := ⟨by have := HQ7.out; simpa using this.symm⟩
                          clear HQ7
                          have z1 : decide (st ≤ e) = true := decide_eq_true hi1
                          have z2 : decide (e ≤ cap) = true := decide_eq_true (by omega)
                          have z3 : decide ((st : Int) ≤ (e : Int)) = true := decide_eq_true (by omega)
                          have z4 : decide ((e : Int) ≤ (cap : Int)) = true := decide_eq_true (by omega)
                          go_wp2_with fail
                          go_quiet (fail)
                          go_wp2_with fail
                          go_ret3
                          exact told_tok HS2.out (p + n) st e (by omega) (by omega) (by omega) hi4 HQ8.out _
                        | false =>
                          have HQ8 : Aside0 (scan o eof k d (p + n) st e rc false true = call o s eof) := ⟨by have := HQ7.out; simpa using this⟩
                          clear HQ7
                          go_wp2_with fail
                          go_roundw
                          case rel => exact ⟨st, e, rc, p + n, k, false, true, d, rfl, rfl, rfl, rfl, rfl, by go_num, ⟨by omega⟩, HS2, HQ8⟩
                          case measure => simp [RowKit.intOf]; omega
                      | false =>
                        have HQ8 : Aside0 (scan o eof k d (p + n) st e rc false false = call o s eof) := ⟨by have := HQ7.out; simpa using this⟩
                        clear HQ7
                        cases nn
                        all_goals go_wp2_with fail
                        all_goals go_roundw
                        all_goals first | exact ⟨st, e, rc, p + n, k, false, false, d, rfl, rfl, rfl, rfl, rfl, by go_num, ⟨by omega⟩, HS2, HQ8⟩ | (simp [RowKit.intOf]; omega)
            | false =>
              have hq := HQ2.out
              rw [if_neg (by rw [← HSP.out]; decide)] at hq
              have HQ3 := Aside0.mk hq
              clear hq HQ2
              go_upto_if 78 with fail
              go_cut [] (fun wx => Aside0 (St w b M off o A0 A1 c0 c1 (put d e p n) wx))
              case first =>
                as_aux_lemma =>
                by_cases hep : e = p
                · subst hep
                  have q1 : ((e : Int) == (e : Int)) = true := beq_self_eq_true _
                  go_wp2_with fail
                  go_meet
                  exact ⟨by unfold put; rw [if_pos rfl]; exact HS2.out⟩
                · have q1 : ((e : Int) == (p : Int)) = false := beq_eq_false_iff_ne.2 (by omega)
                  go_wp2_with fail
                  go_loopw [80] (fun v80 wy => ∃ j : Nat, v80 = .int .i64 j ∧ Aside0 (j ≤ n) ∧ Aside0 (St w b M off o A0 A1 c0 c1 (move d e p j) wy)) (fun v80 _ => n - (RowKit.intOf v80).toNat)
                  case atStart => exact ⟨0, rfl, ⟨Nat.zero_le _⟩, HS2⟩
                  case round =>
                    as_aux_lemma =>
                    clear HS2
                    obtain ⟨j, rfl, HJ, HS2⟩ := hrel
                    have hj := HJ.out
                    by_cases hjn : j < n
                    · have k3 : decide ((j : Int) < (n : Int)) = true := decide_eq_true (by omega)
                      have hmz : (move d e p j).size = s.size := by rw [move_size]; exact hi4
                      have cc1 := HS2.out.win.cell (p + j) (by omega)
                      have f1 := HS2.out.win.frozen (e + j) (by omega)
                      have HS3 := Aside0.mk (HS2.out.set HBW.out (e + j) (by omega) ((move d e p j).get! (p + j)))
                      have cc2 := HS2.out.win.cell (e + j) (by omega)
                      obtain ⟨y, hy⟩ : ∃ y, y = byt (move d e p j) (e + j) := ⟨_, rfl⟩
                      rw [← hy] at cc2
                      clear hy
                      obtain ⟨x, hx⟩ : ∃ x, x = byt (move d e p j) (p + j) := ⟨_, rfl⟩
                      rw [← hx] at cc1
                      have HS4 : Aside0 (St w b M off o A0 A1 c0 c1 (move d e p (j + 1)) (wr.setCell ⟨b, off + (e + j), none⟩ (.int .u8 x))) := ⟨by rw [hx]; exact HS3.out⟩
                      clear hx HS3 hmz
                      have k4 : decide ((0 : Int) ≤ (p : Int) + (j : Int)) = true := decide_eq_true (by omega)
                      have k5 : decide ((p : Int) + (j : Int) < (s.size : Int)) = true := decide_eq_true (by omega)
                      have k6 : decide ((0 : Int) ≤ (e : Int) + (j : Int)) = true := decide_eq_true (by omega)
                      have k7 : decide ((e : Int) + (j : Int) < (s.size : Int)) = true := decide_eq_true (by omega)
                      go_wp2_with fail
                      go_roundw
                      case rel => exact ⟨j + 1, by go_num, ⟨by omega⟩, HS4⟩
                      case measure => simp [RowKit.intOf]; omega
                    · have k3 : decide ((j : Int) < (n : Int)) = false := decide_eq_false (by omega)
                      have hjj : j = n := by omega
                      have HS3 : Aside0 (St w b M off o A0 A1 c0 c1 (put d e p n) wr) := ⟨by unfold put; rw [if_neg hep, ← hjj]; exact HS2.out⟩
                      clear hjj HS2
                      go_wp2_with fail
                      go_meet
                      exact HS3
              case rest =>
                as_aux_lemma =>
                clear HS2
                have HS2 := hcut
                clear hcut
                have hpz : (put d e p n).size = s.size := by rw [put_size]; exact hi4
                obtain ⟨d2, hd2⟩ : ∃ d2, d2 = put d e p n := ⟨_, rfl⟩
                rw [← hd2] at HS2 hpz
                have hq := HQ3.out
                rw [← hd2] at hq
                have HQ4 := Aside0.mk hq
                clear hq HQ3 hd2
                go_upto_region 31 with fail
                go_cut [108] (fun v108 wx => v108 = .bool (o.lines && ((r : Int) == 10)) ∧ Aside0 (St w b M off o A0 A1 c0 c1 d2 wx))
                case first =>
                  as_aux_lemma =>
                  obtain ⟨-, -, -, x3, -⟩ := HS2.out.cells
                  obtain ⟨ln, hln⟩ : ∃ ln, ln = o.lines := ⟨_, rfl⟩
                  rw [← hln] at x3
                  obtain ⟨r10, hr10⟩ : ∃ r10, r10 = ((r : Int) == 10) := ⟨_, rfl⟩
                  have hr11 := hr10.symm
                  have HLN := Aside0.mk hln
                  clear hln hr10
                  cases ln <;> cases r10
                  all_goals go_wp2_with fail
                  all_goals go_meet
                  all_goals exact ⟨by rw [← HLN.out, hr11]; rfl, HS2⟩
                case rest =>
                  as_aux_lemma =>
                  clear HS2
                  obtain ⟨rfl, HS2⟩ := hcut
                  obtain ⟨lb, hlb⟩ : ∃ lb, lb = (o.lines && ((r : Int) == 10)) := ⟨_, rfl⟩
                  rw [← hlb]
                  have hq := HQ4.out
                  rw [← hlb] at hq
                  have HQ5 := Aside0.mk hq
                  clear hq HQ4 hlb
                  go_upto_if 108 with fail
                  go_cut [13] (fun v13 wx => v13 = .bool (lb || nn) ∧ Aside0 ((lb && nn) = false) ∧ Aside0 (St w b M off o A0 A1 c0 c1 d2 wx))
                  case first =>
                    as_aux_lemma =>
                    cases lb with
                    | true =>
                      cases nn with
                      | true =>
                        have hq := HQ5.out
                        rw [if_pos (by rfl : (true && true) = true)] at hq
                        have HQ6 := Aside0.mk hq
                        clear hq HQ5
                        have z1 : decide (st ≤ e + n) = true := decide_eq_true (by omega)
                        have z2 : decide (e + n ≤ cap) = true := decide_eq_true (by omega)
                        have z3 : decide ((st : Int) ≤ (e : Int) + (n : Int)) = true := decide_eq_true (by omega)
                        have z4 : decide ((e : Int) + (n : Int) ≤ (cap : Int)) = true := decide_eq_true (by omega)
                        go_wp2_with fail
                        go_quiet (fail)
                        go_wp2_with fail
                        go_ret3
                        exact told_tok HS2.out (p + n) st (e + n) (by omega) (by omega) (by omega) hpz HQ6.out.symm _
                      | false =>
                        go_wp2_with fail
                        go_meet
                        exact ⟨rfl, ⟨rfl⟩, HS2⟩
                    | false =>
                      go_wp2_with fail
                      go_meet
                      exact ⟨rfl, ⟨rfl⟩, HS2⟩
                  case rest =>
                    as_aux_lemma =>
                    clear HS2
                    obtain ⟨rfl, HLN, HS2⟩ := hcut
                    have hq := HQ5.out
                    rw [if_neg (by rw [HLN.out]; decide)] at hq
                    have HQ6 := Aside0.mk hq
                    clear hq HQ5
                    go_upto_region 35 with fail
                    go_cut [124] (fun v124 wx => v124 = .bool (!(isD o r) && decide ((rc : Int) + 1 < o.max)) ∧ Aside0 (St w b M off o A0 A1 c0 c1 d2 wx))
                    case first =>
                      as_aux_lemma =>
                      have HDL := Aside0.mk (delim_calls (HR.out _ HS2.out.chg).1 (r : Int))
                      obtain ⟨x0, x1, x2, x3, x4⟩ := HS2.out.cells
                      obtain ⟨dl, hdl⟩ : ∃ dl, dl = isD o r := ⟨_, rfl⟩
                      rw [← hdl] at HDL
                      have HDE := Aside0.mk hdl
                      clear hdl
                      cases dl with
                      | true =>
                        go_wp2_with (go_at_call 35; refine HDL.out.mono ?_; rintro e w2 ⟨rfl, hd⟩; have HS3 := Aside0.mk (HS2.out.next hd); clear hd HDL HS2)
                        go_meet
                        exact ⟨by rw [← HDE.out]; rfl, HS3⟩
                      | false =>
                        go_wp2_with (go_at_call 35; refine HDL.out.mono ?_; rintro e w2 ⟨rfl, hd⟩; have HS3 := Aside0.mk (HS2.out.next hd); clear hd HDL HS2; obtain ⟨-, -, -, -, y4⟩ := HS3.out.cells)
                        go_meet
                        exact ⟨by rw [← HDE.out]; simp, HS3⟩
                    case rest =>
                      as_aux_lemma =>
                      clear HS2
                      obtain ⟨rfl, HS2⟩ := hcut
                      obtain ⟨go, hgo⟩ : ∃ go, go = (!(isD o r) && decide ((rc : Int) + 1 < o.max)) := ⟨_, rfl⟩
                      rw [← hgo]
                      have hq := HQ6.out
                      rw [← hgo] at hq
                      have HQ7 := Aside0.mk hq
                      clear hq HQ6 hgo
                      cases go with
                      | true =>
                        as_aux_lemma =>
                        have hq := HQ7.out
                        rw [if_pos rfl] at hq
                        have HQ8 := Aside0.mk hq
                        clear hq HQ7
                        go_wp2_with fail
                        go_roundw
                        case rel => exact ⟨st, e + n, rc + 1, p + n, k, false, lb || nn, d2, rfl, by go_num, by go_num, rfl, rfl, by go_num, ⟨by omega⟩, HS2, HQ8⟩
                        case measure => simp [RowKit.intOf]; omega
                      | false =>
                        have hq := HQ7.out
                        rw [if_neg (by decide)] at hq
                        have HQ8 : Aside0 (tail o st (d.size + 1) d2 (p + n) (e + n) false = call o s eof) := ⟨hq⟩
                        clear hq HQ7
                        have HI2 : Aside0 (st ≤ e + n ∧ e + n ≤ p + n ∧ p + n ≤ s.size ∧ d2.size = s.size ∧ s.size < p + n + (d.size + 1) ∧ st < s.size) := ⟨by omega⟩
                        obtain ⟨e1, he1⟩ : ∃ e1, e1 = e + n := ⟨_, rfl⟩
                        go_wp2_with fail
                        go_loopw [10, 13, 14] (fun v10 v13 v14 wr => ∃ (e2 p2 k2 : Nat) (nn2 : Bool) (d3 : ByteArray), v10 = .int .i64 e2 ∧ v13 = .bool nn2 ∧ v14 = .int .i64 p2 ∧ Aside0 (st ≤ e2 ∧ e2 ≤ p2 ∧ p2 ≤ s.size ∧ d3.size = s.size ∧ s.size < p2 + k2 ∧ st < s.size) ∧ Aside0 (St w b M off o A0 A1 c0 c1 d3 wr) ∧ Aside0 (tail o st k2 d3 p2 e2 nn2 = call o s eof)) (fun _ _ v14 _ => s.size - (RowKit.intOf v14).toNat)
                        case atStart => exact ⟨e + n, p + n, d.size + 1, false, d2, by go_num, rfl, by go_num, HI2, HS2, HQ8⟩
                        case round =>
                          as_aux_lemma =>
                          clear HS2 HQ8 HI2 HLN HSP HRN
                          clear k1 k2 hsg hsl hsr hpz hi6 hi5 hi4 hi3 hi2 hi1 HI
                          obtain ⟨e2, p2, kk, nn2, d3, rfl, rfl, rfl, HI2, HS2, HQ8⟩ := hrel
                          obtain ⟨i1, i2, i3, i4, i5, i6⟩ := HI2.out
                          by_cases hlt2 : p2 < s.size
                          · have k1 : decide ((p2 : Int) < (s.size : Int)) = true := decide_eq_true (by omega)
                            have k2 : decide (cap = p2) = false := decide_eq_false (by omega)
                            have hsg := sg_pos d3 p2 (by omega)
                            have hsl := sg_le d3 p2 (by omega)
                            have hsr := sg_rune d3 p2 (by omega)
                            obtain ⟨r2, hr⟩ : ∃ r2, r2 = (sg d3 p2).1 := ⟨_, rfl⟩
                            obtain ⟨n2, hn⟩ : ∃ n2, n2 = (sg d3 p2).2 := ⟨_, rfl⟩
                            have HDEC := Aside0.mk (fun c => dec_calls wr b M off c d3 p2 (by omega) HS2.out.win (HR.out wr HS2.out.chg).2)
                            rw [← hr] at hsr
                            rw [← hn] at hsg hsl
                            obtain ⟨kk, rfl⟩ : ∃ k', kk = k' + 1 := ⟨kk - 1, by omega⟩
                            have hq := HQ8.out
                            rw [tail, if_pos (by omega)] at hq
                            simp only [← hr, ← hn] at hq
                            have HQ9 := Aside0.mk hq
                            clear hq HQ8
                            simp only [← hr, ← hn] at HDEC
                            rw [i4] at HDEC hsl
                            clear hr hn
                            go_upto_region 39 with (go_at_call 33; refine (HDEC.out _).mono ?_; rintro e w1 ⟨rfl, hd⟩; have HS3 := Aside0.mk (HS2.out.next hd); clear hd HDEC HS2)
                            go_cut [141] (fun v141 wx => v141 = .bool (space o r2) ∧ Aside0 (St w b M off o A0 A1 c0 c1 d3 wx))
                            case first =>
                              as_aux_lemma =>
                              obtain ⟨-, -, x2, -, -⟩ := HS3.out.cells
                              obtain ⟨sk, hsk⟩ : ∃ sk, sk = o.skip := ⟨_, rfl⟩
                              rw [← hsk] at x2
                              have HSK := Aside0.mk hsk
                              clear hsk
                              have HSP := Aside0.mk (space_calls (r2 : Int) w1 (by omega) (by omega) (HR.out w1 HS3.out.chg).2)
                              cases sk with
                              | false =>
                                go_wp2_with fail
                                go_meet
                                exact ⟨by unfold space; rw [← HSK.out]; rfl, HS3⟩
                              | true =>
                                go_wp2_with (go_at_call 34; refine HSP.out.mono ?_; rintro e w2 ⟨rfl, hd⟩; have HS4 := Aside0.mk (HS3.out.next hd); clear hd HSP HS3)
                                go_meet
                                exact ⟨by unfold space; rw [← HSK.out]; rfl, HS4⟩
                            case rest =>
                              as_aux_lemma =>
                              clear HS3
                              obtain ⟨rfl, HS3⟩ := hcut
                              obtain ⟨sp, hsp⟩ : ∃ sp, sp = space o r2 := ⟨_, rfl⟩
                              rw [← hsp]
                              have hq := HQ9.out
                              rw [← hsp] at hq
                              clear hsp HQ9
                              cases sp with
                              | true =>
                                rw [if_pos rfl] at hq
                                have HQ9 := Aside0.mk hq
                                clear hq
                                go_upto_region 41 with fail
                                go_cut [150] (fun v150 wx => v150 = .bool (o.lines && ((r2 : Int) == 10)) ∧ Aside0 (St w b M off o A0 A1 c0 c1 d3 wx))
                                case first =>
                                  as_aux_lemma =>
                                  obtain ⟨-, -, -, x3, -⟩ := HS3.out.cells
                                  obtain ⟨ln, hln⟩ : ∃ ln, ln = o.lines := ⟨_, rfl⟩
                                  rw [← hln] at x3
                                  obtain ⟨r10, hr10⟩ : ∃ r10, r10 = ((r2 : Int) == 10) := ⟨_, rfl⟩
                                  have hr11 := hr10.symm
                                  have HLN := Aside0.mk hln
                                  clear hln hr10
                                  cases ln <;> cases r10
                                  all_goals go_wp2_with fail
                                  all_goals go_meet
                                  all_goals exact ⟨by rw [← HLN.out, hr11]; rfl, HS3⟩
                                case rest =>
                                  as_aux_lemma =>
                                  clear HS3
                                  obtain ⟨rfl, HS3⟩ := hcut
                                  obtain ⟨lb2, hlb⟩ : ∃ lb2, lb2 = (o.lines && ((r2 : Int) == 10)) := ⟨_, rfl⟩
                                  rw [← hlb]
                                  have hq := HQ9.out
                                  rw [← hlb] at hq
                                  have HQ10 := Aside0.mk hq
                                  clear hq HQ9 hlb
                                  cases lb2 with
                                  | true =>
                                    cases nn2 with
                                    | true =>
                                      as_aux_lemma =>
                                      have HQ11 : Aside0 (call o s eof = ⟨p2 + n2, some (st, e2), d3⟩) := ⟨by have := HQ10.out; simpa using this.symm⟩
                                      clear HQ10
                                      have z1 : decide (st ≤ e2) = true := decide_eq_true (by omega)
                                      have z2 : decide (e2 ≤ cap) = true := decide_eq_true (by omega)
                                      have z3 : decide ((st : Int) ≤ (e2 : Int)) = true := decide_eq_true (by omega)
                                      have z4 : decide ((e2 : Int) ≤ (cap : Int)) = true := decide_eq_true (by omega)
                                      go_wp2_with fail
                                      go_quiet (fail)
                                      go_wp2_with fail
                                      go_ret3
                                      exact told_tok HS3.out (p2 + n2) st e2 (by omega) (by omega) (by omega) i4 HQ11.out _
                                    | false =>
                                      as_aux_lemma =>
                                      have HQ11 : Aside0 (tail o st kk d3 (p2 + n2) e2 true = call o s eof) := ⟨by have := HQ10.out; simpa using this⟩
                                      clear HQ10
                                      go_wp2_with fail
                                      go_roundw
                                      case rel => exact ⟨e2, p2 + n2, kk, true, d3, rfl, rfl, by go_num, ⟨by omega⟩, HS3, HQ11⟩
                                      case measure => simp [RowKit.intOf]; omega
                                  | false =>
                                    as_aux_lemma =>
                                    have HQ11 : Aside0 (tail o st kk d3 (p2 + n2) e2 nn2 = call o s eof) := ⟨by have := HQ10.out; simpa using this⟩
                                    clear HQ10
                                    go_wp2_with fail
                                    go_roundw
                                    case rel => exact ⟨e2, p2 + n2, kk, nn2, d3, rfl, rfl, by go_num, ⟨by omega⟩, HS3, HQ11⟩
                                    case measure => simp [RowKit.intOf]; omega
                              | false =>
                                rw [if_neg (by decide)] at hq
                                have HQ9 := Aside0.mk hq
                                clear hq
                                go_upto_region 45 with fail
                                go_cut [164] (fun v164 wx => v164 = .bool (isD o r2 || isF o r2) ∧ Aside0 (St w b M off o A0 A1 c0 c1 d3 wx))
                                case first =>
                                  as_aux_lemma =>
                                  have HDL := Aside0.mk (delim_calls (HR.out _ HS3.out.chg).1 (r2 : Int))
                                  obtain ⟨x0, x1, x2, x3, x4⟩ := HS3.out.cells
                                  obtain ⟨dl, hdl⟩ : ∃ dl, dl = isD o r2 := ⟨_, rfl⟩
                                  rw [← hdl] at HDL
                                  have HDE := Aside0.mk hdl
                                  clear hdl
                                  cases dl with
                                  | true =>
                                    go_wp2_with (go_at_call 35; refine HDL.out.mono ?_; rintro e w2 ⟨rfl, hd⟩; have HS4 := Aside0.mk (HS3.out.next hd); clear hd HDL HS3)
                                    go_meet
                                    exact ⟨by rw [← HDE.out]; rfl, HS4⟩
                                  | false =>
                                    go_wp2_with (first | (go_at_call 35; refine HDL.out.mono ?_; rintro e w2 ⟨rfl, hd⟩; have HS4 := Aside0.mk (HS3.out.next hd); clear hd HDL HS3; obtain ⟨y0, y1, y2, y3, y4⟩ := HS4.out.cells; have HFL := Aside0.mk (follow_calls (HR.out _ HS4.out.chg).1 (r2 : Int))) | (go_at_call 36; refine HFL.out.mono ?_; rintro e w3 ⟨rfl, hd⟩; have HS5 := Aside0.mk (HS4.out.next hd); clear hd HFL HS4))
                                    go_meet
                                    exact ⟨by rw [← HDE.out]; rfl, HS5⟩
                                case rest =>
                                  as_aux_lemma =>
                                  clear HS3
                                  obtain ⟨rfl, HS3⟩ := hcut
                                  obtain ⟨df, hdf⟩ : ∃ df, df = (isD o r2 || isF o r2) := ⟨_, rfl⟩
                                  rw [← hdf]
                                  have hq := HQ9.out
                                  rw [← hdf] at hq
                                  clear hdf HQ9
                                  cases df with
                                  | false =>
                                    as_aux_lemma =>
                                    have HQ10 : Aside0 (call o s eof = ⟨p2, some (st, e2), d3⟩) := ⟨by simpa using hq.symm⟩
                                    clear hq
                                    have z1 : decide (st ≤ e2) = true := decide_eq_true (by omega)
                                    have z2 : decide (e2 ≤ cap) = true := decide_eq_true (by omega)
                                    have z3 : decide ((st : Int) ≤ (e2 : Int)) = true := decide_eq_true (by omega)
                                    have z4 : decide ((e2 : Int) ≤ (cap : Int)) = true := decide_eq_true (by omega)
                                    go_wp2_with fail
                                    go_quiet (fail)
                                    go_wp2_with fail
                                    go_ret3
                                    exact told_tok HS3.out p2 st e2 (by omega) (by omega) (by omega) i4 HQ10.out _
                                  | true =>
                                    rw [if_pos rfl] at hq
                                    have HQ10 := Aside0.mk hq
                                    clear hq
                                    go_upto_if 167 with fail
                                    go_cut [] (fun wx => Aside0 (St w b M off o A0 A1 c0 c1 (put d3 e2 p2 n2) wx))
                                    case first =>
                                      as_aux_lemma =>
                                      by_cases hep : e2 = p2
                                      · subst hep
                                        have q1 : ((e2 : Int) == (e2 : Int)) = true := beq_self_eq_true _
                                        go_wp2_with fail
                                        go_meet
                                        exact ⟨by unfold put; rw [if_pos rfl]; exact HS3.out⟩
                                      · have q1 : ((e2 : Int) == (p2 : Int)) = false := beq_eq_false_iff_ne.2 (by omega)
                                        go_wp2_with fail
                                        go_loopw [169] (fun v169 wy => ∃ j : Nat, v169 = .int .i64 j ∧ Aside0 (j ≤ n2) ∧ Aside0 (St w b M off o A0 A1 c0 c1 (move d3 e2 p2 j) wy)) (fun v169 _ => n2 - (RowKit.intOf v169).toNat)
                                        case atStart => exact ⟨0, rfl, ⟨Nat.zero_le _⟩, HS3⟩
                                        case round =>
                                          as_aux_lemma =>
                                          clear HS3
                                          obtain ⟨j, rfl, HJ, HS3⟩ := hrel
                                          have hj := HJ.out
                                          by_cases hjn : j < n2
                                          · have k3 : decide ((j : Int) < (n2 : Int)) = true := decide_eq_true (by omega)
                                            have hmz : (move d3 e2 p2 j).size = s.size := by rw [move_size]; exact i4
                                            have cc1 := HS3.out.win.cell (p2 + j) (by omega)
                                            have f1 := HS3.out.win.frozen (e2 + j) (by omega)
                                            have HS4 := Aside0.mk (HS3.out.set HBW.out (e2 + j) (by omega) ((move d3 e2 p2 j).get! (p2 + j)))
                                            have cc2 := HS3.out.win.cell (e2 + j) (by omega)
                                            obtain ⟨y, hy⟩ : ∃ y, y = byt (move d3 e2 p2 j) (e2 + j) := ⟨_, rfl⟩
                                            rw [← hy] at cc2
                                            clear hy
                                            obtain ⟨x, hx⟩ : ∃ x, x = byt (move d3 e2 p2 j) (p2 + j) := ⟨_, rfl⟩
                                            rw [← hx] at cc1
                                            have HS5 : Aside0 (St w b M off o A0 A1 c0 c1 (move d3 e2 p2 (j + 1)) (wr.setCell ⟨b, off + (e2 + j), none⟩ (.int .u8 x))) := ⟨by rw [hx]; exact HS4.out⟩
                                            clear hx HS4 hmz
                                            have k4 : decide ((0 : Int) ≤ (p2 : Int) + (j : Int)) = true := decide_eq_true (by omega)
                                            have k5 : decide ((p2 : Int) + (j : Int) < (s.size : Int)) = true := decide_eq_true (by omega)
                                            have k6 : decide ((0 : Int) ≤ (e2 : Int) + (j : Int)) = true := decide_eq_true (by omega)
                                            have k7 : decide ((e2 : Int) + (j : Int) < (s.size : Int)) = true := decide_eq_true (by omega)
                                            go_wp2_with fail
                                            go_roundw
                                            case rel => exact ⟨j + 1, by go_num, ⟨by omega⟩, HS5⟩
                                            case measure => simp [RowKit.intOf]; omega
                                          · have k3 : decide ((j : Int) < (n2 : Int)) = false := decide_eq_false (by omega)
                                            have hjj : j = n2 := by omega
                                            have HS4 : Aside0 (St w b M off o A0 A1 c0 c1 (put d3 e2 p2 n2) wr) := ⟨by unfold put; rw [if_neg hep, ← hjj]; exact HS3.out⟩
                                            clear hjj HS3
                                            go_wp2_with fail
                                            go_meet
                                            exact HS4
                                    case rest =>
                                      as_aux_lemma =>
                                      clear HS3
                                      have HS3 := hcut
                                      clear hcut
                                      have hpz : (put d3 e2 p2 n2).size = s.size := by rw [put_size]; exact i4
                                      as_aux_lemma =>
                                      go_wp2_with fail
                                      go_roundw
                                      case rel => exact ⟨e2 + n2, p2 + n2, kk, nn2, put d3 e2 p2 n2, by go_num, rfl, by go_num, ⟨by omega⟩, HS3, HQ10⟩
                                      case measure => simp [RowKit.intOf]; omega
                          · have k1 : decide ((p2 : Int) < (s.size : Int)) = false := decide_eq_false (by omega)
                            have z1 : decide (st ≤ e2) = true := decide_eq_true (by omega)
                            have z2 : decide (e2 ≤ cap) = true := decide_eq_true (by omega)
                            have z3 : decide ((st : Int) ≤ (e2 : Int)) = true := decide_eq_true (by omega)
                            have z4 : decide ((e2 : Int) ≤ (cap : Int)) = true := decide_eq_true (by omega)
                            have HQ9 : Aside0 (call o s eof = ⟨p2, some (st, e2), d3⟩) := ⟨by
                              rw [← HQ8.out]
                              cases kk with
                              | zero => rfl
                              | succ kk => rw [tail, if_neg (by omega)]⟩
                            clear HQ8
                            as_aux_lemma =>
                            go_wp2_with fail
                            go_quiet (fail)
                            go_wp2_with fail
                            go_ret3
                            exact told_tok HS2.out p2 st e2 (by omega) (by omega) (by omega) i4 HQ9.out _
        · as_aux_lemma =>
          have k1 : decide ((p : Int) < (s.size : Int)) = false := decide_eq_false (by omega)
          obtain ⟨k, rfl⟩ : ∃ k', k = k' + 1 := ⟨k - 1, by omega⟩
          have hq := HQ.out
          rw [scan, if_neg (by omega)] at hq
          clear HQ
          cases eof with
          | true =>
            rw [if_pos rfl, hi4] at hq
            have HQ2 := Aside0.mk hq
            clear hq
            have z1 : decide (st ≤ e) = true := decide_eq_true (by omega)
            have z2 : decide (e ≤ cap) = true := decide_eq_true (by omega)
            have z3 : decide ((st : Int) ≤ (e : Int)) = true := decide_eq_true (by omega)
            have z4 : decide ((e : Int) ≤ (cap : Int)) = true := decide_eq_true (by omega)
            by_cases hcs : cap = st
            · have z5 : decide (cap = st) = true := decide_eq_true hcs
              go_wp2_with fail
              go_quiet (fail)
              go_wp2_with fail
              go_ret3
              rw [← HQ2.out]
              exact ⟨_, rfl, HS1.out.win.block rfl, hi4, HS1.out.chg.drewN _, hi1, by simp only [hi4]; omega, by unfold tokV; rw [if_pos hcs]; subst hcs; first | rfl | (simp; done) | (show Value.slice _ _ _ = _; simp)⟩
            · have z5 : decide (cap = st) = false := decide_eq_false hcs
              go_wp2_with fail
              go_quiet (fail)
              go_wp2_with fail
              go_ret3
              exact told_tok HS1.out s.size st e (by omega) (by omega) (by omega) hi4 HQ2.out.symm _
          | false =>
            rw [if_neg (by decide), hi4] at hq
            have HQ2 := Aside0.mk hq
            clear hq
            go_wp2_with fail
            go_loopw [21] (fun v21 wy => ∃ j : Nat, v21 = .int .i64 ((e + j : Nat) : Int) ∧ Aside0 (e + j ≤ s.size) ∧ Aside0 (St w b M off o A0 A1 c0 c1 (blank d e j) wy)) (fun v21 _ => s.size - (RowKit.intOf v21).toNat)
            case atStart => exact ⟨0, rfl, ⟨by omega⟩, HS1⟩
            case round =>
              as_aux_lemma =>
              clear HS1
              obtain ⟨j, rfl, HJ, HS1⟩ := hrel
              have hj := HJ.out
              have hmz : (blank d e j).size = s.size := by rw [blank_size]; exact hi4
              by_cases hjn : e + j < s.size
              · have k3 : decide (((e + j : Nat) : Int) < (s.size : Int)) = true := decide_eq_true (by omega)
                have f1 := HS1.out.win.frozen (e + j) (by omega)
                have cc2 := HS1.out.win.cell (e + j) (by omega)
                obtain ⟨y, hy⟩ : ∃ y, y = byt (blank d e j) (e + j) := ⟨_, rfl⟩
                rw [← hy] at cc2
                clear hy
                have HS5 : Aside0 (St w b M off o A0 A1 c0 c1 (blank d e (j + 1)) (wr.setCell ⟨b, off + (e + j), none⟩ (.int .u8 32))) := ⟨HS1.out.set HBW.out (e + j) (by omega) 32⟩
                clear hmz
                have k6 : decide ((0 : Int) ≤ (e + j : Nat)) = true := decide_eq_true (by omega)
                generalize hm : e + j = m at *
                go_wp2_with fail
                go_roundw
                case rel => exact ⟨j + 1, by rw [← hm]; go_num, ⟨by omega⟩, HS5⟩
                case measure => simp [RowKit.intOf]; omega
              · have k3 : decide (((e + j : Nat) : Int) < (s.size : Int)) = false := decide_eq_false (by omega)
                have hjj : j = s.size - e := by omega
                have HS3 : Aside0 (St w b M off o A0 A1 c0 c1 (blank d e (s.size - e)) wr) := ⟨by rw [← hjj]; exact HS1.out⟩
                clear HS1
                have hbz : (blank d e (s.size - e)).size = s.size := by rw [blank_size]; exact hi4
                generalize hm : e + j = m at *
                go_wp2_with fail
                go_ret3
                rw [← HQ2.out]
                exact ⟨_, rfl, HS3.out.win, hbz, HS3.out.chg, rfl⟩
end Go.Proofs.YtpjnebmcbeblkaaDoor.Sn
