/- One call of ScanSentences: the walk. The reader's first call: the whole text comes. A new Scanner; its split function. impl.Sentence: the walk; its contract for the law's print. Sentences, plain: what a call tells. The usual splitter: its struct, its call. The tokens of a Scanner over a short text, plain. -/
import Derived.Test.YtpjnebmcbeblkaaDoorQSb
import Derived.Deep.DeepCutAuto
import Derived.Laws.CopyOwn
import Derived.Laws.Cover3
set_option linter.unusedVariables false
namespace Go.Proofs.YtpjnebmcbeblkaaDoor.Sn
open Go.RowKit Go.Lib Go.Proofs.YtpjnebmcbeblkaaDoorW.PrintWords Go.Proofs.YtpjnebmcbeblkaaDoor.Gn Go.Proofs.YtpjnebmcbeblkaaDoor.X
/-- The token: bytes st to en of the window. -/
def tokV (b off cap st en : Nat) : Value := .slice (if cap = st then some ⟨b, off, none⟩ else some ⟨b, off + st, none⟩) (en - st) (cap - st)
/-- What the call's end tells: how far it went, the token, the bytes. -/
def Told (w : World) (b M off cap n : Nat) (r : Out) (e : Ending) (w' : World) : Prop :=
  ∃ tv : Value, e = .returned (.tuple #[.int .i64 r.adv, tv, .nilIface]) ∧ Win w' b M off r.data ∧ r.data.size = n ∧ Chg [b] w w' ∧
    match r.tok with
    | none => tv = .slice none 0 0
    | some (st, en) => st ≤ en ∧ en ≤ r.data.size ∧ tv = tokV b off cap st en
/-- The state of the walk: the window holds d, the struct's variable holds bx, nothing else that was there is changed. -/
structure St (w : World) (b M off : Nat) (o : Sp) (A0 A1 : Option Addr) (c0 c1 : Nat) (d : ByteArray) (W : World) : Prop where
  win : Win W b M off d
  chg : Chg [b] w W
  box : W.heap[w.heap.size]? = some (.cells #[.slice A0 o.ends.length c0, .slice A1 o.fol.length c1, .bool o.skip, .bool o.lines, .int .i64 o.max] 52 (0, 0))
theorem St.next {w : World} {b M off : Nat} {o : Sp} {A0 A1 : Option Addr} {c0 c1 : Nat} {d : ByteArray} {W W' : World} (h : St w b M off o A0 A1 c0 c1 d W) (hc : Chg [] W W') : St w b M off o A0 A1 c0 c1 d W' :=
  ⟨h.win.chg hc (by simp), h.chg.trans (hc.mono (by simp)), (hc.block _ (Array.getElem?_eq_some_iff.1 h.box).1 (by simp)).trans h.box⟩
theorem St.cells {w : World} {b M off : Nat} {o : Sp} {A0 A1 : Option Addr} {c0 c1 : Nat} {d : ByteArray} {W : World} (h : St w b M off o A0 A1 c0 c1 d W) :
    W.cell? ⟨w.heap.size, 0, none⟩ = some (.slice A0 o.ends.length c0) ∧ W.cell? ⟨w.heap.size, 1, none⟩ = some (.slice A1 o.fol.length c1) ∧ W.cell? ⟨w.heap.size, 2, none⟩ = some (.bool o.skip) ∧ W.cell? ⟨w.heap.size, 3, none⟩ = some (.bool o.lines) ∧ W.cell? ⟨w.heap.size, 4, none⟩ = some (.int .i64 o.max) := by
  have := h.box
  refine ⟨?_, ?_, ?_, ?_, ?_⟩ <;> simp [World.cell?, this]
theorem St.set {w : World} {b M off : Nat} {o : Sp} {A0 A1 : Option Addr} {c0 c1 : Nat} {d : ByteArray} {W : World} (h : St w b M off o A0 A1 c0 c1 d W) (hb : b < w.heap.size) (i : Nat) (hi : i < d.size) (v : UInt8) : St w b M off o A0 A1 c0 c1 (setB d i v) (W.setCell ⟨b, off + i, none⟩ (.int .u8 (v.toNat : Int))) :=
  ⟨h.win.set i hi v, h.chg.setCell (.inl (by simp)) _, (Below.heap_setCell W _ _ _ (fun g => by have : w.heap.size = b := g; omega)).trans h.box⟩
theorem told_tok {w : World} {b M off : Nat} {o : Sp} {A0 A1 : Option Addr} {c0 c1 : Nat} {d : ByteArray} {W : World} (h : St w b M off o A0 A1 c0 c1 d W) (adv st en : Nat) {cap n : Nat} {R : Out} (h1 : st ≤ en) (h2 : en ≤ n) (h3 : st < cap) (hd : d.size = n) (hR : R = ⟨adv, some (st, en), d⟩) (m : Nat) :
    Told w b M off cap n R (.returned (.tuple #[.int .i64 (adv : Int), .slice (some ⟨b, off + st, none⟩) (en - st) (cap - st), .nilIface])) (W.drewN m) := by
  subst hR
  exact ⟨_, rfl, h.win.block rfl, hd, h.chg.drewN m, h1, by rw [hd]; exact h2, by unfold tokV; rw [if_neg (by omega)]⟩
/-- Every state reads the rows and the tables. -/
def Env (w : World) (b M off : Nat) (o : Sp) (A0 A1 : Option Addr) (c0 c1 : Nat) : Prop := ∀ W, Chg [b] w W → Rd o A0 A1 c0 c1 W ∧ Tabs W
set_option maxHeartbeats 4000000 in
set_option maxRecDepth 100000 in
theorem scan_calls (w : World) (b M off cap : Nat) (s : ByteArray) (A0 A1 : Option Addr) (c0 c1 : Nat) (o : Sp) (eof : Bool) (hW : Win w b M off s) (hl : s.size ≤ 1000000) (hcap : s.size ≤ cap) (hR : Env w b M off o A0 A1 c0 c1) :
    Calls Tryd.prog 26 #[.agg #[.slice A0 o.ends.length c0, .slice A1 o.fol.length c1, .bool o.skip, .bool o.lines, .int .i64 o.max], .slice (some ⟨b, off, none⟩) s.size cap, .bool eof] w (Told w b M off cap s.size (call o s eof)) := by
  have HW := Aside0.mk hW
  have HR := Aside0.mk hR
  clear hW hR
  by_cases hz : eof = true ∧ s.size = 0
  · obtain ⟨rfl, hz⟩ := hz
    have q1 : ((s.size : Int) == 0) = true := by rw [hz]; rfl
    go_enter Tryd.func26, Tryd.ntmps26
    go_wp2_with fail
    go_ret3
    have hc : call o s true = ⟨0, none, s⟩ := by simp [call, hz]
    rw [hc]
    exact ⟨_, rfl, HW.out.alloc _, rfl, ((Chg.refl [b] w).alloc _), rfl⟩
  · have HQ : Aside0 (scan o eof (s.size + 1) s 0 0 0 0 true false = call o s eof) := ⟨by
      unfold call
      rw [if_neg (fun g => hz (by simpa using g))]⟩
    have HBX : Aside0 ((w.alloc (.cells #[.slice A0 o.ends.length c0, .slice A1 o.fol.length c1, .bool o.skip, .bool o.lines, .int .i64 o.max] 52 (0, 0))).heap[w.heap.size]? = some (.cells #[.slice A0 o.ends.length c0, .slice A1 o.fol.length c1, .bool o.skip, .bool o.lines, .int .i64 o.max] 52 (0, 0))) := ⟨heap_alloc_new _ _⟩
    go_enter Tryd.func26, Tryd.ntmps26
    go_upto_region 1 with fail
    go_cut [27] (fun v27 wx => v27 = .bool false ∧ Aside0 (St w b M off o A0 A1 c0 c1 s wx))
    case first =>
      cases eof with
      | false =>
        go_wp2_with fail
        go_meet
        exact ⟨rfl, ⟨HW.out.alloc _, (Chg.refl [b] w).alloc _, HBX.out⟩⟩
      | true =>
        have q1 : ((s.size : Int) == 0) = false := beq_eq_false_iff_ne.2 (fun g => hz ⟨rfl, by omega⟩)
        go_wp2_with fail
        go_meet
        exact ⟨rfl, ⟨HW.out.alloc _, (Chg.refl [b] w).alloc _, HBX.out⟩⟩
    case rest =>
      as_aux_lemma =>
      clear HBX
      obtain ⟨rfl, HS1⟩ := hcut
      go_wp2_with fail
      go_loopw [9, 10, 11, 12, 13, 14] (fun v9 v10 v11 v12 v13 v14 wr => ∃ (st e rc p k : Nat) (head nn : Bool) (d : ByteArray), v9 = .int .i64 st ∧ v10 = .int .i64 e ∧ v11 = .int .i64 rc ∧ v12 = .bool head ∧ v13 = .bool nn ∧ v14 = .int .i64 p ∧ Aside0 (st ≤ e ∧ e ≤ p ∧ p ≤ s.size ∧ d.size = s.size ∧ rc ≤ p ∧ s.size < p + k) ∧ Aside0 (St w b M off o A0 A1 c0 c1 d wr) ∧ Aside0 (scan o eof k d p st e rc head nn = call o s eof)) (fun _ _ _ _ _ v14 _ => s.size - (RowKit.intOf v14).toNat)
      case atStart => exact ⟨0, 0, 0, 0, s.size + 1, true, false, s, rfl, rfl, rfl, rfl, rfl, rfl, ⟨by omega⟩, HS1, HQ⟩
      case round =>
        as_aux_lemma =>
        clear HS1 HQ
        obtain ⟨st, e, rc, p, k, head, nn, d, rfl, rfl, rfl, rfl, rfl, rfl, HI, HS1, HQ⟩ := hrel
        have HBW : Aside0 (b < w.heap.size) := ⟨HW.out.lt⟩
        obtain ⟨hi1, hi2, hi3, hi4, hi5, hi6⟩ := HI.out
        by_cases hlt : p < s.size
        · have k1 : decide ((p : Int) < (s.size : Int)) = true := decide_eq_true (by omega)
          have k2 : decide (cap = p) = false := decide_eq_false (by omega)
          have hsg := sg_pos d p (by omega)
          have hsl := sg_le d p (by omega)
          have hsr := sg_rune d p (by omega)
          obtain ⟨r, hr⟩ : ∃ r, r = (sg d p).1 := ⟨_, rfl⟩
          obtain ⟨n, hn⟩ : ∃ n, n = (sg d p).2 := ⟨_, rfl⟩
          have HDEC := Aside0.mk (fun c => dec_calls wr b M off c d p (by omega) HS1.out.win (HR.out wr HS1.out.chg).2)
          rw [← hr] at hsr
          rw [← hn] at hsg hsl
          have HRN := Aside0.mk (And.intro hr hn)
          obtain ⟨k, rfl⟩ : ∃ k', k = k' + 1 := ⟨k - 1, by omega⟩
          have hq := HQ.out
          rw [scan, if_pos (by omega)] at hq
          simp only [← hr, ← hn] at hq
          have HQ2 := Aside0.mk hq
          clear hq HQ
          simp only [← hr, ← hn] at HDEC
          rw [hi4] at HDEC hsl
          clear hr hn
          go_upto_region 9 with (go_at_call 33; refine (HDEC.out _).mono ?_; rintro e w1 ⟨rfl, hd⟩; have HS2 := Aside0.mk (HS1.out.next hd); clear hd HDEC HS1)
          go_cut [44] (fun v44 wx => v44 = .bool (space o r) ∧ Aside0 (St w b M off o A0 A1 c0 c1 d wx))
          case first =>
            as_aux_lemma =>
            obtain ⟨-, -, x2, -, -⟩ := HS2.out.cells
            obtain ⟨sk, hsk⟩ : ∃ sk, sk = o.skip := ⟨_, rfl⟩
            rw [← hsk] at x2
            have HSK := Aside0.mk hsk
            clear hsk
            have HSP := Aside0.mk (space_calls (r : Int) w1 (by omega) (by omega) (HR.out w1 HS2.out.chg).2)
            cases sk with
            | false =>
              go_wp2_with fail
              go_meet
              exact ⟨by unfold space; rw [← HSK.out]; rfl, HS2⟩
            | true =>
              go_wp2_with (go_at_call 34; refine HSP.out.mono ?_; rintro e w2 ⟨rfl, hd⟩; have HS3 := Aside0.mk (HS2.out.next hd); clear hd HSP HS2)
              go_meet
              exact ⟨by unfold space; rw [← HSK.out]; rfl, HS3⟩
          case rest =>
            as_aux_lemma =>
            clear HS2
            obtain ⟨rfl, HS2⟩ := hcut
            obtain ⟨sp, hsp⟩ : ∃ sp, sp = space o r := ⟨_, rfl⟩
            rw [← hsp]
            have HSP := Aside0.mk hsp
            clear hsp
            cases sp with
            | true =>
              have hq := HQ2.out
              rw [if_pos HSP.out.symm] at hq
              have HQ3 := Aside0.mk hq
              clear hq HQ2
              cases head with
              | true =>
                have hq := HQ3.out
                rw [if_pos rfl] at hq
                have HQ4 := Aside0.mk hq
                clear hq HQ3
                go_wp2_with fail
                go_roundw
                case rel => exact ⟨p + n, p + n, rc, p + n, k, true, nn, d, by go_num, by go_num, rfl, rfl, rfl, by go_num, ⟨by omega⟩, HS2, HQ4⟩
                case measure => simp [RowKit.intOf]; omega
              | false =>
                have hq := HQ3.out
                rw [if_neg (by decide)] at hq
                have HQ4 := Aside0.mk hq
                clear hq HQ3
                go_upto_region 13 with fail
                go_cut [52] (fun v52 wx => v52 = .bool (isD o r) ∧ Aside0 (St w b M off o A0 A1 c0 c1 d wx))
                case first =>
                  as_aux_lemma =>
                  have HDL := Aside0.mk (delim_calls (HR.out _ HS2.out.chg).1 (r : Int))
                  obtain ⟨x0, x1, x2, x3, x4⟩ := HS2.out.cells
                  go_wp2_with (go_at_call 35; refine HDL.out.mono ?_; rintro e w2 ⟨rfl, hd⟩; have HS3 := Aside0.mk (HS2.out.next hd); clear hd HDL HS2)
                  go_meet
                  exact ⟨rfl, HS3⟩
                case rest =>
                  as_aux_lemma =>
                  clear HS2
                  obtain ⟨rfl, HS2⟩ := hcut
                  obtain ⟨dl, hdl⟩ : ∃ dl, dl = isD o r := ⟨_, rfl⟩
                  rw [← hdl]
                  have hq := HQ4.out
                  rw [← hdl] at hq
                  have HQ5 := Aside0.mk hq
                  clear hq HQ4 hdl
                  cases dl with
                  | true =>
                    have hq := HQ5.out
                    rw [if_pos rfl] at hq
                    have HQ6 := Aside0.mk hq
                    clear hq HQ5
                    have z1 : decide (st ≤ e) = true := decide_eq_true hi1
                    have z2 : decide (e ≤ cap) = true := decide_eq_true (by omega)
                    have z3 : decide ((st : Int) ≤ (e : Int)) = true := decide_eq_true (by omega)
                    have z4 : decide ((e : Int) ≤ (cap : Int)) = true := decide_eq_true (by omega)
                    go_wp2_with fail
                    go_quiet (fail)
                    go_wp2_with fail
                    go_ret3
                    as_aux_lemma => exact told_tok HS2.out (p + n) st e (by omega) (by omega) (by omega) hi4 HQ6.out.symm _
                  | false =>
                    have hq := HQ5.out
                    rw [if_neg (by decide)] at hq
                    have HQ6 := Aside0.mk hq
                    clear hq HQ5
                    go_upto_region 15 with fail
                    go_cut [61] (fun v61 wx => v61 = .bool (o.lines && ((r : Int) == 10)) ∧ Aside0 (St w b M off o A0 A1 c0 c1 d wx))
                    case first =>
                      as_aux_lemma =>
                      obtain ⟨-, -, -, x3, -⟩ := HS2.out.cells
                      obtain ⟨ln, hln⟩ : ∃ ln, ln = o.lines := ⟨_, rfl⟩
                      rw [← hln] at x3
                      obtain ⟨r10, hr10⟩ : ∃ r10, r10 = ((r : Int) == 10) := ⟨_, rfl⟩
                      have hr11 := hr10.symm
                      have HLN := Aside0.mk hln
                      clear hln hr10
                      as_aux_lemma =>
                      cases ln <;> cases r10
                      all_goals go_wp2_with fail
                      all_goals go_meet
                      all_goals exact ⟨by rw [← HLN.out, hr11]; rfl, HS2⟩
                    case rest =>
                      as_aux_lemma =>
                      clear HS2
                      obtain ⟨rfl, HS2⟩ := hcut
                      obtain ⟨lb, hlb⟩ : ∃ lb, lb = (o.lines && ((r : Int) == 10)) := ⟨_, rfl⟩
                      rw [← hlb]
                      have hq := HQ6.out
                      rw [← hlb] at hq
                      have HQ7 := Aside0.mk hq
                      clear hq HQ6 hlb
                      cases lb with
                      | true =>
                        cases nn with
                        | true =>
                          as_aux_lemma =>
                          have HQ8 : Aside0 (call o s eof = ⟨p + n, some (st, e), d⟩) := ⟨by have := HQ7.out; simpa using this.symm⟩
                          clear HQ7
                          have z1 : decide (st ≤ e) = true := decide_eq_true hi1
                          have z2 : decide (e ≤ cap) = true := decide_eq_true (by omega)
                          have z3 : decide ((st : Int) ≤ (e : Int)) = true := decide_eq_true (by omega)
                          have z4 : decide ((e : Int) ≤ (cap : Int)) = true := decide_eq_true (by omega)
                          go_wp2_with fail
                          go_quiet (fail)
                          go_wp2_with fail
                          go_ret3
                          exact told_tok HS2.out (p + n) st e (by omega) (by omega) (by omega) hi4 HQ8.out _
                        | false =>
                          have HQ8 : Aside0 (scan o eof k d (p + n) st e rc false true = call o s eof) := ⟨by have := HQ7.out; simpa using this⟩
                          clear HQ7
                          go_wp2_with fail
                          go_roundw
                          case rel => exact ⟨st, e, rc, p + n, k, false, true, d, rfl, rfl, rfl, rfl, rfl, by go_num, ⟨by omega⟩, HS2, HQ8⟩
                          case measure => simp [RowKit.intOf]; omega
                      | false =>
                        have HQ8 : Aside0 (scan o eof k d (p + n) st e rc false false = call o s eof) := ⟨by have := HQ7.out; simpa using this⟩
                        clear HQ7
                        cases nn
                        all_goals go_wp2_with fail
                        all_goals go_roundw
                        all_goals first | exact ⟨st, e, rc, p + n, k, false, false, d, rfl, rfl, rfl, rfl, rfl, by go_num, ⟨by omega⟩, HS2, HQ8⟩ | (simp [RowKit.intOf]; omega)
            | false =>
              have hq := HQ2.out
              rw [if_neg (by rw [← HSP.out]; decide)] at hq
              have HQ3 := Aside0.mk hq
              clear hq HQ2
              go_upto_if 78 with fail
              go_cut [] (fun wx => Aside0 (St w b M off o A0 A1 c0 c1 (put d e p n) wx))
              case first =>
                as_aux_lemma =>
                by_cases hep : e = p
                · subst hep
                  have q1 : ((e : Int) == (e : Int)) = true := beq_self_eq_true _
                  go_wp2_with fail
                  go_meet
                  exact ⟨by unfold put; rw [if_pos rfl]; exact HS2.out⟩
                · have q1 : ((e : Int) == (p : Int)) = false := beq_eq_false_iff_ne.2 (by omega)
                  go_wp2_with fail
                  go_loopw [80] (fun v80 wy => ∃ j : Nat, v80 = .int .i64 j ∧ Aside0 (j ≤ n) ∧ Aside0 (St w b M off o A0 A1 c0 c1 (move d e p j) wy)) (fun v80 _ => n - (RowKit.intOf v80).toNat)
                  case atStart => exact ⟨0, rfl, ⟨Nat.zero_le _⟩, HS2⟩
                  case round =>
                    as_aux_lemma =>
                    clear HS2
                    obtain ⟨j, rfl, HJ, HS2⟩ := hrel
                    have hj := HJ.out
                    by_cases hjn : j < n
                    · have k3 : decide ((j : Int) < (n : Int)) = true := decide_eq_true (by omega)
                      have hmz : (move d e p j).size = s.size := by rw [move_size]; exact hi4
                      have cc1 := HS2.out.win.cell (p + j) (by omega)
                      have f1 := HS2.out.win.frozen (e + j) (by omega)
                      have HS3 := Aside0.mk (HS2.out.set HBW.out (e + j) (by omega) ((move d e p j).get! (p + j)))
                      have cc2 := HS2.out.win.cell (e + j) (by omega)
                      obtain ⟨y, hy⟩ : ∃ y, y = byt (move d e p j) (e + j) := ⟨_, rfl⟩
                      rw [← hy] at cc2
                      clear hy
                      obtain ⟨x, hx⟩ : ∃ x, x = byt (move d e p j) (p + j) := ⟨_, rfl⟩
                      rw [← hx] at cc1
                      have HS4 : Aside0 (St w b M off o A0 A1 c0 c1 (move d e p (j + 1)) (wr.setCell ⟨b, off + (e + j), none⟩ (.int .u8 x))) := ⟨by rw [hx]; exact HS3.out⟩
                      clear hx HS3 hmz
                      have k4 : decide ((0 : Int) ≤ (p : Int) + (j : Int)) = true := decide_eq_true (by omega)
                      have k5 : decide ((p : Int) + (j : Int) < (s.size : Int)) = true := decide_eq_true (by omega)
                      have k6 : decide ((0 : Int) ≤ (e : Int) + (j : Int)) = true := decide_eq_true (by omega)
                      have k7 : decide ((e : Int) + (j : Int) < (s.size : Int)) = true := decide_eq_true (by omega)
                      go_wp2_with fail
                      go_roundw
                      case rel => exact ⟨j + 1, by go_num, ⟨by omega⟩, HS4⟩
                      case measure => simp [RowKit.intOf]; omega
                    · have k3 : decide ((j : Int) < (n : Int)) = false := decide_eq_false (by omega)
                      have hjj : j = n := by omega
                      have HS3 : Aside0 (St w b M off o A0 A1 c0 c1 (put d e p n) wr) := ⟨by unfold put; rw [if_neg hep, ← hjj]; exact HS2.out⟩
                      clear hjj HS2
                      go_wp2_with fail
                      go_meet
                      exact HS3
              case rest =>
                as_aux_lemma =>
                clear HS2
                have HS2 := hcut
                clear hcut
                have hpz : (put d e p n).size = s.size := by rw [put_size]; exact hi4
                obtain ⟨d2, hd2⟩ : ∃ d2, d2 = put d e p n := ⟨_, rfl⟩
                rw [← hd2] at HS2 hpz
                have hq := HQ3.out
                rw [← hd2] at hq
                have HQ4 := Aside0.mk hq
                clear hq HQ3 hd2
                go_upto_region 31 with fail
                go_cut [108] (fun v108 wx => v108 = .bool (o.lines && ((r : Int) == 10)) ∧ Aside0 (St w b M off o A0 A1 c0 c1 d2 wx))
                case first =>
                  as_aux_lemma =>
                  obtain ⟨-, -, -, x3, -⟩ := HS2.out.cells
                  obtain ⟨ln, hln⟩ : ∃ ln, ln = o.lines := ⟨_, rfl⟩
                  rw [← hln] at x3
                  obtain ⟨r10, hr10⟩ : ∃ r10, r10 = ((r : Int) == 10) := ⟨_, rfl⟩
                  have hr11 := hr10.symm
                  have HLN := Aside0.mk hln
                  clear hln hr10
                  cases ln <;> cases r10
                  all_goals go_wp2_with fail
                  all_goals go_meet
                  all_goals exact ⟨by rw [← HLN.out, hr11]; rfl, HS2⟩
                case rest =>
                  as_aux_lemma =>
                  clear HS2
                  obtain ⟨rfl, HS2⟩ := hcut
                  obtain ⟨lb, hlb⟩ : ∃ lb, lb = (o.lines && ((r : Int) == 10)) := ⟨_, rfl⟩
                  rw [← hlb]
                  have hq := HQ4.out
                  rw [← hlb] at hq
                  have HQ5 := Aside0.mk hq
                  clear hq HQ4 hlb
                  go_upto_if 108 with fail
                  go_cut [13] (fun v13 wx => v13 = .bool (lb || nn) ∧ Aside0 ((lb && nn) = false) ∧ Aside0 (St w b M off o A0 A1 c0 c1 d2 wx))
                  case first =>
                    as_aux_lemma =>
                    cases lb with
                    | true =>
                      cases nn with
                      | true =>
                        have hq := HQ5.out
                        rw [if_pos (by rfl : (true && true) = true)] at hq
                        have HQ6 := Aside0.mk hq
                        clear hq HQ5
                        have z1 : decide (st ≤ e + n) = true := decide_eq_true (by omega)
                        have z2 : decide (e + n ≤ cap) = true := decide_eq_true (by omega)
                        have z3 : decide ((st : Int) ≤ (e : Int) + (n : Int)) = true := decide_eq_true (by omega)
                        have z4 : decide ((e : Int) + (n : Int) ≤ (cap : Int)) = true := decide_eq_true (by omega)
                        go_wp2_with fail
                        go_quiet (fail)
                        go_wp2_with fail
                        go_ret3
                        exact told_tok HS2.out (p + n) st (e + n) (by omega) (by omega) (by omega) hpz HQ6.out.symm _
                      | false =>
                        go_wp2_with fail
                        go_meet
                        exact ⟨rfl, ⟨rfl⟩, HS2⟩
                    | false =>
                      go_wp2_with fail
                      go_meet
                      exact ⟨rfl, ⟨rfl⟩, HS2⟩
                  case rest =>
                    as_aux_lemma =>
                    clear HS2
                    obtain ⟨rfl, HLN, HS2⟩ := hcut
                    have hq := HQ5.out
                    rw [if_neg (by rw [HLN.out]; decide)] at hq
                    have HQ6 := Aside0.mk hq
                    clear hq HQ5
                    go_upto_region 35 with fail
                    go_cut [124] (fun v124 wx => v124 = .bool (!(isD o r) && decide ((rc : Int) + 1 < o.max)) ∧ Aside0 (St w b M off o A0 A1 c0 c1 d2 wx))
                    case first =>
                      as_aux_lemma =>
                      have HDL := Aside0.mk (delim_calls (HR.out _ HS2.out.chg).1 (r : Int))
                      obtain ⟨x0, x1, x2, x3, x4⟩ := HS2.out.cells
                      obtain ⟨dl, hdl⟩ : ∃ dl, dl = isD o r := ⟨_, rfl⟩
                      rw [← hdl] at HDL
                      have HDE := Aside0.mk hdl
                      clear hdl
                      cases dl with
                      | true =>
                        go_wp2_with (go_at_call 35; refine HDL.out.mono ?_; rintro e w2 ⟨rfl, hd⟩; have HS3 := Aside0.mk (HS2.out.next hd); clear hd HDL HS2)
                        go_meet
                        exact ⟨by rw [← HDE.out]; rfl, HS3⟩
                      | false =>
                        go_wp2_with (go_at_call 35; refine HDL.out.mono ?_; rintro e w2 ⟨rfl, hd⟩; have HS3 := Aside0.mk (HS2.out.next hd); clear hd HDL HS2; obtain ⟨-, -, -, -, y4⟩ := HS3.out.cells)
                        go_meet
                        exact ⟨by rw [← HDE.out]; simp, HS3⟩
                    case rest =>
                      as_aux_lemma =>
                      clear HS2
                      obtain ⟨rfl, HS2⟩ := hcut
                      obtain ⟨go, hgo⟩ : ∃ go, go = (!(isD o r) && decide ((rc : Int) + 1 < o.max)) := ⟨_, rfl⟩
                      rw [← hgo]
                      have hq := HQ6.out
                      rw [← hgo] at hq
                      have HQ7 := Aside0.mk hq
                      clear hq HQ6 hgo
                      cases go with
                      | true =>
                        as_aux_lemma =>
                        have hq := HQ7.out
                        rw [if_pos rfl] at hq
                        have HQ8 := Aside0.mk hq
                        clear hq HQ7
                        go_wp2_with fail
                        go_roundw
                        case rel => exact ⟨st, e + n, rc + 1, p + n, k, false, lb || nn, d2, rfl, by go_num, by go_num, rfl, rfl, by go_num, ⟨by omega⟩, HS2, HQ8⟩
                        case measure => simp [RowKit.intOf]; omega
                      | false =>
                        have hq := HQ7.out
                        rw [if_neg (by decide)] at hq
                        have HQ8 : Aside0 (tail o st (d.size + 1) d2 (p + n) (e + n) false = call o s eof) := ⟨hq⟩
                        clear hq HQ7
                        have HI2 : Aside0 (st ≤ e + n ∧ e + n ≤ p + n ∧ p + n ≤ s.size ∧ d2.size = s.size ∧ s.size < p + n + (d.size + 1) ∧ st < s.size) := ⟨by omega⟩
                        obtain ⟨e1, he1⟩ : ∃ e1, e1 = e + n := ⟨_, rfl⟩
                        go_wp2_with fail
                        go_loopw [10, 13, 14] (fun v10 v13 v14 wr => ∃ (e2 p2 k2 : Nat) (nn2 : Bool) (d3 : ByteArray), v10 = .int .i64 e2 ∧ v13 = .bool nn2 ∧ v14 = .int .i64 p2 ∧ Aside0 (st ≤ e2 ∧ e2 ≤ p2 ∧ p2 ≤ s.size ∧ d3.size = s.size ∧ s.size < p2 + k2 ∧ st < s.size) ∧ Aside0 (St w b M off o A0 A1 c0 c1 d3 wr) ∧ Aside0 (tail o st k2 d3 p2 e2 nn2 = call o s eof)) (fun _ _ v14 _ => s.size - (RowKit.intOf v14).toNat)
                        case atStart => exact ⟨e + n, p + n, d.size + 1, false, d2, by go_num, rfl, by go_num, HI2, HS2, HQ8⟩
                        case round =>
                          as_aux_lemma =>
                          clear HS2 HQ8 HI2 HLN HSP HRN
                          clear k1 k2 hsg hsl hsr hpz hi6 hi5 hi4 hi3 hi2 hi1 HI
                          obtain ⟨e2, p2, kk, nn2, d3, rfl, rfl, rfl, HI2, HS2, HQ8⟩ := hrel
                          obtain ⟨i1, i2, i3, i4, i5, i6⟩ := HI2.out
                          by_cases hlt2 : p2 < s.size
                          · have k1 : decide ((p2 : Int) < (s.size : Int)) = true := decide_eq_true (by omega)
                            have k2 : decide (cap = p2) = false := decide_eq_false (by omega)
                            have hsg := sg_pos d3 p2 (by omega)
                            have hsl := sg_le d3 p2 (by omega)
                            have hsr := sg_rune d3 p2 (by omega)
                            obtain ⟨r2, hr⟩ : ∃ r2, r2 = (sg d3 p2).1 := ⟨_, rfl⟩
                            obtain ⟨n2, hn⟩ : ∃ n2, n2 = (sg d3 p2).2 := ⟨_, rfl⟩
                            have HDEC := Aside0.mk (fun c => dec_calls wr b M off c d3 p2 (by omega) HS2.out.win (HR.out wr HS2.out.chg).2)
                            rw [← hr] at hsr
                            rw [← hn] at hsg hsl
                            obtain ⟨kk, rfl⟩ : ∃ k', kk = k' + 1 := ⟨kk - 1, by omega⟩
                            have hq := HQ8.out
                            rw [tail, if_pos (by omega)] at hq
                            simp only [← hr, ← hn] at hq
                            have HQ9 := Aside0.mk hq
                            clear hq HQ8
                            simp only [← hr, ← hn] at HDEC
                            rw [i4] at HDEC hsl
                            clear hr hn
                            go_upto_region 39 with (go_at_call 33; refine (HDEC.out _).mono ?_; rintro e w1 ⟨rfl, hd⟩; have HS3 := Aside0.mk (HS2.out.next hd); clear hd HDEC HS2)
                            go_cut [141] (fun v141 wx => v141 = .bool (space o r2) ∧ Aside0 (St w b M off o A0 A1 c0 c1 d3 wx))
                            case first =>
                              as_aux_lemma =>
                              obtain ⟨-, -, x2, -, -⟩ := HS3.out.cells
                              obtain ⟨sk, hsk⟩ : ∃ sk, sk = o.skip := ⟨_, rfl⟩
                              rw [← hsk] at x2
                              have HSK := Aside0.mk hsk
                              clear hsk
                              have HSP := Aside0.mk (space_calls (r2 : Int) w1 (by omega) (by omega) (HR.out w1 HS3.out.chg).2)
                              cases sk with
                              | false =>
                                go_wp2_with fail
                                go_meet
                                exact ⟨by unfold space; rw [← HSK.out]; rfl, HS3⟩
                              | true =>
                                go_wp2_with (go_at_call 34; refine HSP.out.mono ?_; rintro e w2 ⟨rfl, hd⟩; have HS4 := Aside0.mk (HS3.out.next hd); clear hd HSP HS3)
                                go_meet
                                exact ⟨by unfold space; rw [← HSK.out]; rfl, HS4⟩
                            case rest =>
                              as_aux_lemma =>
                              clear HS3
                              obtain ⟨rfl, HS3⟩ := hcut
                              obtain ⟨sp, hsp⟩ : ∃ sp, sp = space o r2 := ⟨_, rfl⟩
                              rw [← hsp]
                              have hq := HQ9.out
                              rw [← hsp] at hq
                              clear hsp HQ9
                              cases sp with
                              | true =>
                                rw [if_pos rfl] at hq
                                have HQ9 := Aside0.mk hq
                                clear hq
                                go_upto_region 41 with fail
                                go_cut [150] (fun v150 wx => v150 = .bool (o.lines && ((r2 : Int) == 10)) ∧ Aside0 (St w b M off o A0 A1 c0 c1 d3 wx))
                                case first =>
                                  as_aux_lemma =>
                                  obtain ⟨-, -, -, x3, -⟩ := HS3.out.cells
                                  obtain ⟨ln, hln⟩ : ∃ ln, ln = o.lines := ⟨_, rfl⟩
                                  rw [← hln] at x3
                                  obtain ⟨r10, hr10⟩ : ∃ r10, r10 = ((r2 : Int) == 10) := ⟨_, rfl⟩
                                  have hr11 := hr10.symm
                                  have HLN := Aside0.mk hln
                                  clear hln hr10
                                  cases ln <;> cases r10
                                  all_goals go_wp2_with fail
                                  all_goals go_meet
                                  all_goals exact ⟨by rw [← HLN.out, hr11]; rfl, HS3⟩
                                case rest =>
                                  as_aux_lemma =>
                                  clear HS3
                                  obtain ⟨rfl, HS3⟩ := hcut
                                  obtain ⟨lb2, hlb⟩ : ∃ lb2, lb2 = (o.lines && ((r2 : Int) == 10)) := ⟨_, rfl⟩
                                  rw [← hlb]
                                  have hq := HQ9.out
                                  rw [← hlb] at hq
                                  have HQ10 := Aside0.mk hq
                                  clear hq HQ9 hlb
                                  cases lb2 with
                                  | true =>
                                    cases nn2 with
                                    | true =>
                                      as_aux_lemma =>
                                      have HQ11 : Aside0 (call o s eof = ⟨p2 + n2, some (st, e2), d3⟩) := ⟨by have := HQ10.out; simpa using this.symm⟩
                                      clear HQ10
                                      have z1 : decide (st ≤ e2) = true := decide_eq_true (by omega)
                                      have z2 : decide (e2 ≤ cap) = true := decide_eq_true (by omega)
                                      have z3 : decide ((st : Int) ≤ (e2 : Int)) = true := decide_eq_true (by omega)
                                      have z4 : decide ((e2 : Int) ≤ (cap : Int)) = true := decide_eq_true (by omega)
                                      go_wp2_with fail
                                      go_quiet (fail)
                                      go_wp2_with fail
                                      go_ret3
                                      exact told_tok HS3.out (p2 + n2) st e2 (by omega) (by omega) (by omega) i4 HQ11.out _
                                    | false =>
                                      as_aux_lemma =>
                                      have HQ11 : Aside0 (tail o st kk d3 (p2 + n2) e2 true = call o s eof) := ⟨by have := HQ10.out; simpa using this⟩
                                      clear HQ10
                                      go_wp2_with fail
                                      go_roundw
                                      case rel => exact ⟨e2, p2 + n2, kk, true, d3, rfl, rfl, by go_num, ⟨by omega⟩, HS3, HQ11⟩
                                      case measure => simp [RowKit.intOf]; omega
                                  | false =>
                                    as_aux_lemma =>
                                    have HQ11 : Aside0 (tail o st kk d3 (p2 + n2) e2 nn2 = call o s eof) := ⟨by have := HQ10.out; simpa using this⟩
                                    clear HQ10
                                    go_wp2_with fail
                                    go_roundw
                                    case rel => exact ⟨e2, p2 + n2, kk, nn2, d3, rfl, rfl, by go_num, ⟨by omega⟩, HS3, HQ11⟩
                                    case measure => simp [RowKit.intOf]; omega
                              | false =>
                                rw [if_neg (by decide)] at hq
                                have HQ9 := Aside0.mk hq
                                clear hq
                                go_upto_region 45 with fail
                                go_cut [164] (fun v164 wx => v164 = .bool (isD o r2 || isF o r2) ∧ Aside0 (St w b M off o A0 A1 c0 c1 d3 wx))
                                case first =>
                                  as_aux_lemma =>
                                  have HDL := Aside0.mk (delim_calls (HR.out _ HS3.out.chg).1 (r2 : Int))
                                  obtain ⟨x0, x1, x2, x3, x4⟩ := HS3.out.cells
                                  obtain ⟨dl, hdl⟩ : ∃ dl, dl = isD o r2 := ⟨_, rfl⟩
                                  rw [← hdl] at HDL
                                  have HDE := Aside0.mk hdl
                                  clear hdl
                                  cases dl with
                                  | true =>
                                    go_wp2_with (go_at_call 35; refine HDL.out.mono ?_; rintro e w2 ⟨rfl, hd⟩; have HS4 := Aside0.mk (HS3.out.next hd); clear hd HDL HS3)
                                    go_meet
                                    exact ⟨by rw [← HDE.out]; rfl, HS4⟩
                                  | false =>
                                    go_wp2_with (first | (go_at_call 35; refine HDL.out.mono ?_; rintro e w2 ⟨rfl, hd⟩; have HS4 := Aside0.mk (HS3.out.next hd); clear hd HDL HS3; obtain ⟨y0, y1, y2, y3, y4⟩ := HS4.out.cells; have HFL := Aside0.mk (follow_calls (HR.out _ HS4.out.chg).1 (r2 : Int))) | (go_at_call 36; refine HFL.out.mono ?_; rintro e w3 ⟨rfl, hd⟩; have HS5 := Aside0.mk (HS4.out.next hd); clear hd HFL HS4))
                                    go_meet
                                    exact ⟨by rw [← HDE.out]; rfl, HS5⟩
                                case rest =>
                                  as_aux_lemma =>
                                  clear HS3
                                  obtain ⟨rfl, HS3⟩ := hcut
                                  obtain ⟨df, hdf⟩ : ∃ df, df = (isD o r2 || isF o r2) := ⟨_, rfl⟩
                                  rw [← hdf]
                                  have hq := HQ9.out
                                  rw [← hdf] at hq
                                  clear hdf HQ9
                                  cases df with
                                  | false =>
                                    as_aux_lemma =>
                                    have HQ10 : Aside0 (call o s eof = ⟨p2, some (st, e2), d3⟩) := ⟨by simpa using hq.symm⟩
                                    clear hq
                                    have z1 : decide (st ≤ e2) = true := decide_eq_true (by omega)
                                    have z2 : decide (e2 ≤ cap) = true := decide_eq_true (by omega)
                                    have z3 : decide ((st : Int) ≤ (e2 : Int)) = true := decide_eq_true (by omega)
                                    have z4 : decide ((e2 : Int) ≤ (cap : Int)) = true := decide_eq_true (by omega)
                                    go_wp2_with fail
                                    go_quiet (fail)
                                    go_wp2_with fail
                                    go_ret3
                                    exact told_tok HS3.out p2 st e2 (by omega) (by omega) (by omega) i4 HQ10.out _
                                  | true =>
                                    rw [if_pos rfl] at hq
                                    have HQ10 := Aside0.mk hq
                                    clear hq
                                    go_upto_if 167 with fail
                                    go_cut [] (fun wx => Aside0 (St w b M off o A0 A1 c0 c1 (put d3 e2 p2 n2) wx))
                                    case first =>
                                      as_aux_lemma =>
                                      by_cases hep : e2 = p2
                                      · subst hep
                                        have q1 : ((e2 : Int) == (e2 : Int)) = true := beq_self_eq_true _
                                        go_wp2_with fail
                                        go_meet
                                        exact ⟨by unfold put; rw [if_pos rfl]; exact HS3.out⟩
                                      · have q1 : ((e2 : Int) == (p2 : Int)) = false := beq_eq_false_iff_ne.2 (by omega)
                                        go_wp2_with fail
                                        go_loopw [169] (fun v169 wy => ∃ j : Nat, v169 = .int .i64 j ∧ Aside0 (j ≤ n2) ∧ Aside0 (St w b M off o A0 A1 c0 c1 (move d3 e2 p2 j) wy)) (fun v169 _ => n2 - (RowKit.intOf v169).toNat)
                                        case atStart => exact ⟨0, rfl, ⟨Nat.zero_le _⟩, HS3⟩
                                        case round =>
                                          as_aux_lemma =>
                                          clear HS3
                                          obtain ⟨j, rfl, HJ, HS3⟩ := hrel
                                          have hj := HJ.out
                                          by_cases hjn : j < n2
                                          · have k3 : decide ((j : Int) < (n2 : Int)) = true := decide_eq_true (by omega)
                                            have hmz : (move d3 e2 p2 j).size = s.size := by rw [move_size]; exact i4
                                            have cc1 := HS3.out.win.cell (p2 + j) (by omega)
                                            have f1 := HS3.out.win.frozen (e2 + j) (by omega)
                                            have HS4 := Aside0.mk (HS3.out.set HBW.out (e2 + j) (by omega) ((move d3 e2 p2 j).get! (p2 + j)))
                                            have cc2 := HS3.out.win.cell (e2 + j) (by omega)
                                            obtain ⟨y, hy⟩ : ∃ y, y = byt (move d3 e2 p2 j) (e2 + j) := ⟨_, rfl⟩
                                            rw [← hy] at cc2
                                            clear hy
                                            obtain ⟨x, hx⟩ : ∃ x, x = byt (move d3 e2 p2 j) (p2 + j) := ⟨_, rfl⟩
                                            rw [← hx] at cc1
                                            have HS5 : Aside0 (St w b M off o A0 A1 c0 c1 (move d3 e2 p2 (j + 1)) (wr.setCell ⟨b, off + (e2 + j), none⟩ (.int .u8 x))) := ⟨by rw [hx]; exact HS4.out⟩
                                            clear hx HS4 hmz
                                            have k4 : decide ((0 : Int) ≤ (p2 : Int) + (j : Int)) = true := decide_eq_true (by omega)
                                            have k5 : decide ((p2 : Int) + (j : Int) < (s.size : Int)) = true := decide_eq_true (by omega)
                                            have k6 : decide ((0 : Int) ≤ (e2 : Int) + (j : Int)) = true := decide_eq_true (by omega)
                                            have k7 : decide ((e2 : Int) + (j : Int) < (s.size : Int)) = true := decide_eq_true (by omega)
                                            go_wp2_with fail
                                            go_roundw
                                            case rel => exact ⟨j + 1, by go_num, ⟨by omega⟩, HS5⟩
                                            case measure => simp [RowKit.intOf]; omega
                                          · have k3 : decide ((j : Int) < (n2 : Int)) = false := decide_eq_false (by omega)
                                            have hjj : j = n2 := by omega
                                            have HS4 : Aside0 (St w b M off o A0 A1 c0 c1 (put d3 e2 p2 n2) wr) := ⟨by unfold put; rw [if_neg hep, ← hjj]; exact HS3.out⟩
                                            clear hjj HS3
                                            go_wp2_with fail
                                            go_meet
                                            exact HS4
                                    case rest =>
                                      as_aux_lemma =>
                                      clear HS3
                                      have HS3 := hcut
                                      clear hcut
                                      have hpz : (put d3 e2 p2 n2).size = s.size := by rw [put_size]; exact i4
                                      as_aux_lemma =>
                                      go_wp2_with fail
                                      go_roundw
                                      case rel => exact ⟨e2 + n2, p2 + n2, kk, nn2, put d3 e2 p2 n2, by go_num, rfl, by go_num, ⟨by omega⟩, HS3, HQ10⟩
                                      case measure => simp [RowKit.intOf]; omega
                          · have k1 : decide ((p2 : Int) < (s.size : Int)) = false := decide_eq_false (by omega)
                            have z1 : decide (st ≤ e2) = true := decide_eq_true (by omega)
                            have z2 : decide (e2 ≤ cap) = true := decide_eq_true (by omega)
                            have z3 : decide ((st : Int) ≤ (e2 : Int)) = true := decide_eq_true (by omega)
                            have z4 : decide ((e2 : Int) ≤ (cap : Int)) = true := decide_eq_true (by omega)
                            have HQ9 : Aside0 (call o s eof = ⟨p2, some (st, e2), d3⟩) := ⟨by
                              rw [← HQ8.out]
                              cases kk with
                              | zero => rfl
                              | succ kk => rw [tail, if_neg (by omega)]⟩
                            clear HQ8
                            as_aux_lemma =>
                            go_wp2_with fail
                            go_quiet (fail)
                            go_wp2_with fail
                            go_ret3
                            exact told_tok HS2.out p2 st e2 (by omega) (by omega) (by omega) i4 HQ9.out _
        · as_aux_lemma =>
          have k1 : decide ((p : Int) < (s.size : Int)) = false := decide_eq_false (by omega)
          obtain ⟨k, rfl⟩ : ∃ k', k = k' + 1 := ⟨k - 1, by omega⟩
          have hq := HQ.out
          rw [scan, if_neg (by omega)] at hq
          clear HQ
          cases eof with
          | true =>
            rw [if_pos rfl, hi4] at hq
            have HQ2 := Aside0.mk hq
            clear hq
            have z1 : decide (st ≤ e) = true := decide_eq_true (by omega)
            have z2 : decide (e ≤ cap) = true := decide_eq_true (by omega)
            have z3 : decide ((st : Int) ≤ (e : Int)) = true := decide_eq_true (by omega)
            have z4 : decide ((e : Int) ≤ (cap : Int)) = true := decide_eq_true (by omega)
            by_cases hcs : cap = st
            · have z5 : decide (cap = st) = true := decide_eq_true hcs
              go_wp2_with fail
              go_quiet (fail)
              go_wp2_with fail
              go_ret3
              rw [← HQ2.out]
              exact ⟨_, rfl, HS1.out.win.block rfl, hi4, HS1.out.chg.drewN _, hi1, by simp only [hi4]; omega, by unfold tokV; rw [if_pos hcs]; subst hcs; first | rfl | (simp; done) | (show Value.slice _ _ _ = _; simp)⟩
            · have z5 : decide (cap = st) = false := decide_eq_false hcs
              go_wp2_with fail
              go_quiet (fail)
              go_wp2_with fail
              go_ret3
              exact told_tok HS1.out s.size st e (by omega) (by omega) (by omega) hi4 HQ2.out.symm _
          | false =>
            rw [if_neg (by decide), hi4] at hq
            have HQ2 := Aside0.mk hq
            clear hq
            go_wp2_with fail
            go_loopw [21] (fun v21 wy => ∃ j : Nat, v21 = .int .i64 ((e + j : Nat) : Int) ∧ Aside0 (e + j ≤ s.size) ∧ Aside0 (St w b M off o A0 A1 c0 c1 (blank d e j) wy)) (fun v21 _ => s.size - (RowKit.intOf v21).toNat)
            case atStart => exact ⟨0, rfl, ⟨by omega⟩, HS1⟩
            case round =>
              as_aux_lemma =>
              clear HS1
              obtain ⟨j, rfl, HJ, HS1⟩ := hrel
              have hj := HJ.out
              have hmz : (blank d e j).size = s.size := by rw [blank_size]; exact hi4
              by_cases hjn : e + j < s.size
              · have k3 : decide (((e + j : Nat) : Int) < (s.size : Int)) = true := decide_eq_true (by omega)
                have f1 := HS1.out.win.frozen (e + j) (by omega)
                have cc2 := HS1.out.win.cell (e + j) (by omega)
                obtain ⟨y, hy⟩ : ∃ y, y = byt (blank d e j) (e + j) := ⟨_, rfl⟩
                rw [← hy] at cc2
                clear hy
                have HS5 : Aside0 (St w b M off o A0 A1 c0 c1 (blank d e (j + 1)) (wr.setCell ⟨b, off + (e + j), none⟩ (.int .u8 32))) := ⟨HS1.out.set HBW.out (e + j) (by omega) 32⟩
                clear hmz
                have k6 : decide ((0 : Int) ≤ (e + j : Nat)) = true := decide_eq_true (by omega)
                generalize hm : e + j = m at *
                go_wp2_with fail
                go_roundw
                case rel => exact ⟨j + 1, by rw [← hm]; go_num, ⟨by omega⟩, HS5⟩
                case measure => simp [RowKit.intOf]; omega
              · have k3 : decide (((e + j : Nat) : Int) < (s.size : Int)) = false := decide_eq_false (by omega)
                have hjj : j = s.size - e := by omega
                have HS3 : Aside0 (St w b M off o A0 A1 c0 c1 (blank d e (s.size - e)) wr) := ⟨by rw [← hjj]; exact HS1.out⟩
                clear HS1
                have hbz : (blank d e (s.size - e)).size = s.size := by rw [blank_size]; exact hi4
                generalize hm : e + j = m at *
                go_wp2_with fail
                go_ret3
                rw [← HQ2.out]
                exact ⟨_, rfl, HS3.out.win, hbz, HS3.out.chg, rfl⟩
end Go.Proofs.YtpjnebmcbeblkaaDoor.Sn
namespace Go.Proofs.YtpjnebmcbeblkaaDoor.Sn
open Go.RowKit Go.Lib Go.Proofs.YtpjnebmcbeblkaaDoorW.PrintWords Go.Proofs.YtpjnebmcbeblkaaDoor.Gn Go.Proofs.YtpjnebmcbeblkaaDoor.X
/-- 'copy' over a row's head. -/
theorem run_copy_head {P : Program} (w : World) (dT sT ty elem : TypeId) (g dLen dCap : Nat) (a : Addr) (sLen sCap : Nat) (cur : Array Value) (t : TypeId) (cs : List Value)
    (hu : P.underlying dT = some (.slice elem)) (hs : (P.info? elem).map (·.size) = some 1)
    (hg : w.heap[g]? = some (.cells cur t (0, 0))) (hn : cs.length = Nat.min sLen dLen)
    (hsrc : ∀ j v, cs[j]? = some v → w.cell? (a.add j) = some v) (hfit : cs.length ≤ cur.size) (h1 : ∀ v ∈ cs, v.oneCell' = true) :
    (Builtin.copy_ #[dT, sT] ty #[.slice (some ⟨g, 0, none⟩) dLen dCap, .slice (some a) sLen sCap]).run P w =
      .ok (goInt (Nat.min sLen dLen)) (w.setRow g (cs ++ cur.toList.drop cs.length).toArray) := by
  have hl := run_loadCells_list (P := P) w a cs hsrc
  have hst := run_storeCells_at P g 0 t cs 0 cur w hg (by simp; omega) h1
  simp only [Nat.zero_add, Nat.add_zero, List.take_zero, List.nil_append] at hst
  rw [hn] at hl
  cases hq : P.info? elem with
  | none => simp [hq] at hs
  | some i =>
    have hi : i.size = 1 := by simpa [hq] using hs
    simp [Builtin.copy_, run_underlying hu, Builtin.lenOf, Builtin.firstCells, sizeOf, typeInfo, hq, hi, hl, hst]
theorem wpList_copy_head {P : Program} {w : World} {ops : Array Oper} {rest : List Oper} {o : Oper} {a : Act} {Q : Exit → Act → World → Prop} (hgd : o.guard = none) (d s : Operand) (dT sT : TypeId)
    (ho : o.op = .call { callee := .builtin .copy, args := #[d, s], argTypes := #[dT, sT] }) (elem : TypeId) (hu : P.underlying dT = some (.slice elem)) (hsz : (P.info? elem).map (·.size) = some 1)
    (g dLen dCap : Nat) (ad : Addr) (sLen sCap : Nat) (hd : a.eval d = .slice (some ⟨g, 0, none⟩) dLen dCap) (hs : a.eval s = .slice (some ad) sLen sCap)
    (cur : Array Value) (t : TypeId) (hg : w.heap[g]? = some (.cells cur t (0, 0))) (cs : List Value) (hn : cs.length = Nat.min sLen dLen)
    (hsrc : ∀ j v, cs[j]? = some v → w.cell? (ad.add j) = some v) (hfit : cs.length ≤ cur.size) (h1 : ∀ v ∈ cs, v.oneCell' = true)
    (h : ∀ w2, w2 = w.setRow g (cs ++ cur.toList.drop cs.length).toArray → wpList P ops Q rest (a.put o.dst (goInt (Nat.min sLen dLen))) w2) : wpList P ops Q (o :: rest) a w := by
  refine wpList_plain hgd fun K hK => ?_
  have hrun := run_copy_head (P := P) w dT sT o.type elem g dLen dCap ad sLen sCap cur t cs hu hsz hg hn hsrc hfit h1
  unfold Oper.wp
  simp [execOp, ho, resolve, invoke, builtin, hd, hs, hrun, Result.andThen]
  exact hK _ _ (h _ rfl)
/-- The cells of a text. -/
def u8s (s : ByteArray) : List Value := (List.range s.size).map fun j => .int .u8 (byt s j)
theorem u8s_length (s : ByteArray) : (u8s s).length = s.size := by simp [u8s]
theorem u8s_get (s : ByteArray) (j : Nat) (h : j < s.size) : (u8s s)[j]? = some (.int .u8 (byt s j)) := by simp [u8s, h]
theorem heap_setRow (w : World) (g : Nat) (c c' : Array Value) (t : TypeId) (fz : Nat × Nat) (h : w.heap[g]? = some (.cells c t fz)) : (w.setRow g c').heap[g]? = some (.cells c' t fz) := by
  have hlt := (Array.getElem?_eq_some_iff.1 h).1
  have h2 := (Array.getElem?_eq_some_iff.1 h).2
  show (w.heap.modify g _)[g]? = _
  rw [Array.getElem?_eq_getElem (by simpa using hlt), Array.getElem_modify_self, h2]
/-- A row of 4096 bytes of the call's own. -/
def Row4 (W : World) (gb : Nat) : Prop := ∃ cur : Array Value, W.heap[gb]? = some (.cells cur 5 (0, 0)) ∧ cur.size = 4096
set_option maxHeartbeats 2000000 in
set_option maxRecDepth 100000 in
theorem read_first {W : World} {gp gt gb M c : Nat} {s : ByteArray} (h : Pc W gp (.slice (some ⟨gt, 0, none⟩) s.size c)) (hw : Win W gt M 0 s) (hc : s.size ≤ c) (hs : 0 < s.size) (hs2 : s.size ≤ 1000) (hb : Row4 W gb) (hne : gb ≠ gp) (hne2 : gt ≠ gp) :
    Calls Tryd.prog 70 #[.pointer (some ⟨gp, 0, none⟩), .slice (some ⟨gb, 0, none⟩) 4096 4096] W fun e W' => e = .returned (.tuple #[.int .i64 s.size, .nilIface]) ∧ Chg [gb, gp] W W' ∧ Win W' gb 4096 0 s ∧ ∃ T c', Pc W' gp (.slice T 0 c') := by
  obtain ⟨A, c2, hp⟩ := h.blk
  obtain ⟨cur, hg, hz⟩ := hb
  have c0 := cell_of (i := 0) hp rfl
  have c1 := cell_of (i := 1) hp rfl
  have f0 := frz_of hp 0
  have hmin : Nat.min s.size 4096 = s.size := Nat.min_eq_left (by omega)
  have HG := Aside0.mk hg
  have HZ := Aside0.mk hz
  have HSRC : Aside0 (∀ j v, (u8s s)[j]? = some v → W.cell? (Addr.add ⟨gt, 0, none⟩ j) = some v) := ⟨fun j v hv => by
    have hj : j < s.size := by
      have := (List.getElem?_eq_some_iff.1 hv).1
      rwa [u8s_length] at this
    rw [u8s_get s j hj] at hv
    have := hw.cell j hj
    rw [Nat.zero_add] at this
    rw [add0, ← hv, this]⟩
  have HP := Aside0.mk hp
  have HNE := Aside0.mk (And.intro hne hne2)
  have HLT := Aside0.mk (And.intro (Array.getElem?_eq_some_iff.1 hg).1 h.lt)
  have k1 : ((s.size : Int) == 0) = false := beq_eq_false_iff_ne.2 (by omega)
  have k2 : decide (s.size ≤ c) = true := decide_eq_true hc
  have k3 : decide ((s.size : Int) ≤ (c : Int)) = true := decide_eq_true (by omega)
  have k4 : decide ((0 : Int) ≤ (s.size : Int)) = true := decide_eq_true (by omega)
  clear h hw hp hg hz hne hne2
  have HK : Aside0 (∀ w2, w2 = W.setRow gb (u8s s ++ cur.toList.drop (u8s s).length).toArray → Chg [gb] W w2 ∧ Win w2 gb 4096 0 s ∧ w2.heap[gp]? = some (.cells #[.slice (some ⟨gt, 0, none⟩) s.size c, .slice A 0 c2] 67 (0, 0))) := ⟨fun w2 e => by
    subst e
    refine ⟨(Chg.refl [gb] W).setRow (.inl (by simp)) _, ⟨_, (0, 0), heap_setRow W gb cur _ _ _ HG.out, ?_, by omega, .inl (Nat.le_refl _), fun j hj => ?_⟩, ?_⟩
    · have := HZ.out
      simp [u8s_length]
      omega
    · rw [Nat.zero_add]
      show ((u8s s ++ cur.toList.drop (u8s s).length).toArray)[j]? = _
      rw [List.getElem?_toArray, List.getElem?_append_left (by rw [u8s_length]; exact hj), u8s_get s j hj]
    · rw [setRow_other W gb gp _ (Ne.symm HNE.out.1)]
      exact HP.out⟩
  go_enter Tryd.func70, Tryd.ntmps70
  go_wp2_with (refine wpList_copy_head rfl _ _ _ _ rfl 5 Tryd.underlying46 (by kernel_rfl) gb 4096 4096 ⟨gt, 0, none⟩ s.size c rfl rfl cur 5 HG.out (u8s s) (by rw [u8s_length, hmin]) HSRC.out (by rw [u8s_length, HZ.out]; omega) (fun v hv => by obtain ⟨j, hj, rfl⟩ := List.mem_map.1 hv; rfl) ?_; intro w2 hw2; obtain ⟨hc2, hw3, hp2⟩ := HK.out w2 hw2; have d0 := cell_of (i := 0) hp2 rfl; have d1 := frz_of hp2 0; have HC2 := Aside0.mk hc2; have HW3 := Aside0.mk hw3; have HP2 := Aside0.mk hp2; clear hc2 hw3 hp2 hw2 HK HG HSRC HP; rw [hmin])
  all_goals go_ret2
  all_goals exact ⟨rfl, HC2.out.mono (by simp) |>.setCell (.inl (by simp)) _, (HW3.out.block (Below.heap_setCell _ _ _ _ HNE.out.1)), _, _, ⟨_, _, heap_put _ ⟨gp, 0, none⟩ _ _ _ _ HP2.out rfl⟩⟩
end Go.Proofs.YtpjnebmcbeblkaaDoor.Sn
namespace Go.Proofs.YtpjnebmcbeblkaaDoor.Sn
open Go.RowKit Go.Lib Go.Proofs.YtpjnebmcbeblkaaDoorW.PrintWords Go.Proofs.YtpjnebmcbeblkaaDoor.Gn Go.Proofs.YtpjnebmcbeblkaaDoor.X
def splitLines : Value := .func (.func 46) #[] #[]
set_option maxHeartbeats 2000000 in
set_option maxRecDepth 100000 in
theorem new_calls (W : World) (gp : Nat) : Calls Tryd.prog 37 #[.iface 65 (.pointer (some ⟨gp, 0, none⟩))] W fun e W' => e = .returned (.pointer (some ⟨W.heap.size, 0, none⟩)) ∧ Sc W' W.heap.size gp splitLines (.slice none 0 0) (.slice none 0 0) .nilIface 0 0 0 false ∧ Chg [] W W' := by
  go_enter Tryd.func37, Tryd.ntmps37
  go_wp2_with fail
  go_ret
  exact ⟨rfl, ⟨heap_alloc_new _ _⟩, (Chg.refl [] W).alloc _⟩
set_option maxHeartbeats 2000000 in
set_option maxRecDepth 100000 in
theorem split_calls {W : World} {g gp : Nat} {F tok buf err : Value} {st en emp : Nat} (h : Sc W g gp F tok buf err st en emp false) (f : Fn) (a c : Array Value) :
    Calls Tryd.prog 38 #[.pointer (some ⟨g, 0, none⟩), .func f a c] W fun e W' => e = .returned (.tuple #[]) ∧ Sc W' g gp (.func f a c) tok buf err st en emp false ∧ Chg [g] W W' := by
  obtain ⟨⟨c0, c1, c2, c3, c4, c5, c6, c7, c8, c9, c10⟩, fz⟩ := h.cells
  have f1 := fz 1
  have hst2 : (store ⟨g, 1, none⟩ (.func f a c)).run Tryd.prog W = .ok () (W.setCell ⟨g, 1, none⟩ (.func f a c)) := by rw [run_store _ _ _ _ _ rfl, c1]; simp only [f1]; rfl
  have HS : Aside0 (Sc (W.setCell ⟨g, 1, none⟩ (.func f a c)) g gp (.func f a c) tok buf err st en emp false) := ⟨⟨heap_put W ⟨g, 1, none⟩ _ _ _ _ h.blk rfl⟩⟩
  have HC : Aside0 (Chg [g] W (W.setCell ⟨g, 1, none⟩ (.func f a c))) := ⟨(Chg.refl [g] W).setCell (.inl (by simp)) _⟩
  clear h fz
  go_enter Tryd.func38, Tryd.ntmps38
  go_wp2_with fail
  go_end0
  exact ⟨rfl, HS.out, HC.out⟩
end Go.Proofs.YtpjnebmcbeblkaaDoor.Sn
namespace Go.Proofs.YtpjnebmcbeblkaaDoor.Sn
open Go.RowKit Go.Lib Go.Proofs.YtpjnebmcbeblkaaDoorW.PrintWords Go.Proofs.YtpjnebmcbeblkaaDoor.Gn Go.Proofs.YtpjnebmcbeblkaaDoor.X
theorem results_tmp4 {fn : Func} {t u v x : Tmp} (h : fn.results = #[.tmp t, .tmp u, .tmp v, .tmp x]) (tmps : Array Value) (P : Program) (w : World) :
    (results fn tmps).run P w = .ok (.tuple #[tmps.getD t undef, tmps.getD u undef, tmps.getD v undef, tmps.getD x undef]) w := by
  simp [results, h]
def tokOf (R : Out) : ByteArray := match R.tok with
  | none => ByteArray.empty
  | some (st, en) => cut R.data st en
set_option maxHeartbeats 2000000 in
set_option maxRecDepth 100000 in
theorem sentence_calls (w : World) (s a f : ByteArray) (sk ln : Bool) (mx : Int) (eof : Bool) (hT : Tabs w) (hs : s.size ≤ 1000) (ha : a.size ≤ 1000) (hf : f.size ≤ 1000) (R : Out) (hR : call (spOf a f sk ln mx) s eof = R) :
    Calls Tryd.prog 9 #[.string s, .agg #[.string a, .string f, .bool sk, .bool ln, .int .i64 mx], .bool eof] w fun e w' => e = .returned (.tuple #[.int .i64 R.adv, .string (tokOf R), .bool R.tok.isSome, .string R.data]) ∧ Below w.heap.size w w' := by
  have hbz := print_bytes (P := Tryd.prog) 9 46 5 Tryd.underlying9 Tryd.underlying46 Tryd.underlying5 s
  obtain ⟨w0, hw0⟩ : ∃ w0, w0 = w.alloc (.cells #[.string a, .string f, .bool sk, .bool ln, .int .i64 mx] 23 (0, 0)) := ⟨_, rfl⟩
  have hz0 : w0.heap.size = w.heap.size + 1 := by rw [hw0]; exact size_alloc _ _
  have hc0 : Chg [] w w0 := by rw [hw0]; exact (Chg.refl [] w).alloc _
  have hb0 : w0.heap[w.heap.size]? = some (.cells #[.string a, .string f, .bool sk, .bool ln, .int .i64 mx] 23 (0, 0)) := by rw [hw0]; exact heap_alloc_new _ _
  have hc1 : Chg [] w (Lib.bytesWorld w0 5 s) := hc0.trans (bytes_chg w0 s)
  have hz1 : (Lib.bytesWorld w0 5 s).heap.size = w.heap.size + 2 := by rw [Lib.bytesWorld_size, hz0]
  have hb1 : (Lib.bytesWorld w0 5 s).heap[w.heap.size]? = some (.cells #[.string a, .string f, .bool sk, .bool ln, .int .i64 mx] 23 (0, 0)) := by rw [Lib.bytesWorld_at_old w0 5 s _ (by omega)]; exact hb0
  have hw1 := bytes_Win w0 s
  obtain ⟨M, hM⟩ : ∃ M, M = (Lib.bytesCells w0 5 s).size := ⟨_, rfl⟩
  obtain ⟨cap, hcap⟩ : ∃ cap, cap = grownCap w0 s.size 0 5 := ⟨_, rfl⟩
  have hcs : s.size ≤ cap := by rw [hcap]; exact grownCap_ge _ _ _ _
  rw [← hM, hz0] at hw1
  obtain ⟨w1, hww1⟩ : ∃ w1, w1 = Lib.bytesWorld w0 5 s := ⟨_, rfl⟩
  rw [← hww1] at hc1 hz1 hb1 hw1
  have hsc : ∀ (w2 : World) (g0 g1 k0 k1 : Nat), Chg [] w1 w2 → w1.heap.size ≤ g0 → w1.heap.size ≤ g1 → Rd (spOf a f sk ln mx) (some ⟨g0, 0, none⟩) (some ⟨g1, 0, none⟩) k0 k1 w2 → Calls Tryd.prog 26 #[.agg #[.slice (some ⟨g0, 0, none⟩) (runes a).length k0, .slice (some ⟨g1, 0, none⟩) (runes f).length k1, .bool sk, .bool ln, .int .i64 mx], .slice (some ⟨w.heap.size + 1, 0, none⟩) s.size cap, .bool eof] w2 (Told w2 (w.heap.size + 1) M 0 cap s.size R) := by
    intro w2 g0 g1 k0 k1 h1 h2 h3 h4
    have := scan_calls w2 (w.heap.size + 1) M 0 cap s (some ⟨g0, 0, none⟩) (some ⟨g1, 0, none⟩) k0 k1 (spOf a f sk ln mx) eof (hw1.chg h1 (by simp)) (by omega) hcs (fun W hW => ⟨h4.chg hW (by simp; omega) (by simp; omega), hT.below (((hc1.trans h1).above hW (fun i hi => .inr (by simp at hi; omega))).toBelow (Nat.le_refl _) (by simp))⟩)
    rw [hR] at this
    exact this
  have hsp := splitter_calls w1 a f sk ln mx (by omega) (by omega)
  have ha1 : ∀ w3, Chg [w.heap.size + 1] w1 w3 → Below w.heap.size w w3 := fun w3 h3 => (hc1.above h3 (fun i hi => .inr (by simp at hi; omega))).toBelow (Nat.le_refl _) (by simp)
  have hld : (loadVar 23 ⟨w.heap.size, 0, none⟩).run Tryd.prog w1 = .ok (.agg #[.string a, .string f, .bool sk, .bool ln, .int .i64 mx]) w1 := run_loadVar_row w1 _ _ _ _ _ _ hb1 Tryd.underlying23 rfl (by kernel_rfl)
  have HSC := Aside0.mk hsc
  have HSP := Aside0.mk hsp
  have HA1 := Aside0.mk ha1
  have HW0 := Aside0.mk hw0
  have HWW1 := Aside0.mk hww1
  have HCAP := Aside0.mk hcap
  have HCS := Aside0.mk hcs
  have HZ0 := Aside0.mk hz0
  have cx : w1.cell? ⟨w.heap.size, 0, none⟩ = some (.string a) ∧ w1.cell? ⟨w.heap.size, 1, none⟩ = some (.string f) ∧ w1.cell? ⟨w.heap.size, 2, none⟩ = some (.bool sk) ∧ w1.cell? ⟨w.heap.size, 3, none⟩ = some (.bool ln) ∧ w1.cell? ⟨w.heap.size, 4, none⟩ = some (.int .i64 mx) := ⟨cell_of hb1 rfl, cell_of hb1 rfl, cell_of hb1 rfl, cell_of hb1 rfl, cell_of hb1 rfl⟩
  obtain ⟨cx0, cx1, cx2, cx3, cx4⟩ := cx
  clear hT hR hz0 hc0 hb0 hc1 hz1 hb1 hw1 hM hcap hcs hsc hsp ha1 hww1 hld
  rcases R with ⟨adv, tok, data⟩
  rw [hw0] at HWW1 HCAP HZ0
  have hbz1 : (convert 9 46 (.string s)).run Tryd.prog (w.alloc (.cells #[.string a, .string f, .bool sk, .bool ln, .int .i64 mx] 23 (0, 0))) = .ok (.slice (some ⟨w.heap.size + 1, 0, none⟩) s.size cap) w1 := by
    rw [hbz, ← HWW1.out, ← HCAP.out, HZ0.out]
  clear hbz hw0 HW0 HWW1 HCAP HZ0
  cases tok with
  | none =>
    go_enter Tryd.func9, Tryd.ntmps9
    go_wp2_with (first
      | (go_at_call 25; refine HSP.out.mono ?_; rintro e w2 ⟨g0, g1, k0, k1, rfl, hc2, hg0, hg1, hrd⟩; have HSD := Aside0.mk (HSC.out w2 g0 g1 k0 k1 hc2 hg0 hg1 hrd); have HC2 := Aside0.mk hc2; clear hc2 hg0 hg1 hrd HSC HSP)
      | (go_at_call 26; refine HSD.out.mono ?_; rintro e w3 ⟨tv, rfl, hw3, hz3, hc3, rfl⟩; have HA3 := Aside0.mk (HA1.out w3 ((HC2.out.mono (by simp)).trans hc3)); clear HSD HC2 HA1; simp only at hz3 hw3; have hd1 : ∀ n, (convert 46 9 (.slice none 0 0)).run Tryd.prog (w3.drewN n) = .ok (.string ByteArray.empty) (w3.drewN n) := fun n => nil_string Tryd.underlying46 Tryd.underlying5 Tryd.underlying9; have hd2 := fun n => Win.string (P := Tryd.prog) (c := cap) (w := w3.drewN n) (hw3.block rfl) (by omega) 0 data.size (Nat.zero_le _) (Nat.le_refl _) Tryd.underlying46 Tryd.underlying5 Tryd.underlying9 0 (.inr rfl); simp only [cut_all, Nat.sub_zero] at hd2; rw [hz3] at hd2; have hd3 : ∀ (A : Option Addr) (l c n : Nat), (binOp .neq 46 (.slice A l c) (.slice none 0 0)).run Tryd.prog (w3.drewN n) = .ok (.bool (!A.isNone)) (w3.drewN n) := fun A l c n => run_neq_slice_nil _ 46 5 A l c Tryd.underlying46; clear hw3 hz3 hc3))
    go_quiet (fail)
    go_wp2_with fail
    (try simp only [Exit.inBlock, Exit.then])
    refine bodyPost_ret (results_tmp4 rfl _ _ _) rfl ?_
    exact ⟨rfl, ((Chg.below HA3.out).drewN _).toBelow (Nat.le_refl _) (by simp)⟩
  | some t =>
    obtain ⟨st, en⟩ := t
    by_cases hcs : cap = st
    · have HCE := Aside0.mk hcs
      clear hcs
      as_aux_lemma =>
      go_enter Tryd.func9, Tryd.ntmps9
      go_wp2_with (first
        | (go_at_call 25; refine HSP.out.mono ?_; rintro e w2 ⟨g0, g1, k0, k1, rfl, hc2, hg0, hg1, hrd⟩; have HSD := Aside0.mk (HSC.out w2 g0 g1 k0 k1 hc2 hg0 hg1 hrd); have HC2 := Aside0.mk hc2; clear hc2 hg0 hg1 hrd HSC HSP)
        | (go_at_call 26; refine HSD.out.mono ?_; rintro e w3 ⟨tv, rfl, hw3, hz3, hc3, hse, hen, htv⟩; have HA3 := Aside0.mk (HA1.out w3 ((HC2.out.mono (by simp)).trans hc3)); clear HSD HC2 HA1; simp only at hz3 hw3 hen; unfold tokV at htv; rw [if_pos HCE.out] at htv; subst htv; have hd1 := fun n => Win.string (P := Tryd.prog) (c := cap - st) (w := w3.drewN n) (hw3.block rfl) (by omega) st en hse hen Tryd.underlying46 Tryd.underlying5 Tryd.underlying9 0 (.inl (by have := HCS.out; have := HCE.out; omega)); have hd2 := fun n => Win.string (P := Tryd.prog) (c := cap) (w := w3.drewN n) (hw3.block rfl) (by omega) 0 data.size (Nat.zero_le _) (Nat.le_refl _) Tryd.underlying46 Tryd.underlying5 Tryd.underlying9 0 (.inr rfl); simp only [cut_all, Nat.sub_zero] at hd2; rw [hz3] at hd2; have hd3 : ∀ (A : Option Addr) (l c n : Nat), (binOp .neq 46 (.slice A l c) (.slice none 0 0)).run Tryd.prog (w3.drewN n) = .ok (.bool (!A.isNone)) (w3.drewN n) := fun A l c n => run_neq_slice_nil _ 46 5 A l c Tryd.underlying46; clear hw3 hz3 hc3))
      go_quiet (fail)
      go_wp2_with fail
      (try simp only [Exit.inBlock, Exit.then])
      refine bodyPost_ret (results_tmp4 rfl _ _ _) rfl ?_
      exact ⟨rfl, ((Chg.below HA3.out).drewN _).toBelow (Nat.le_refl _) (by simp)⟩
    · have HCE := Aside0.mk hcs
      clear hcs
      as_aux_lemma =>
      go_enter Tryd.func9, Tryd.ntmps9
      go_wp2_with (first
        | (go_at_call 25; refine HSP.out.mono ?_; rintro e w2 ⟨g0, g1, k0, k1, rfl, hc2, hg0, hg1, hrd⟩; have HSD := Aside0.mk (HSC.out w2 g0 g1 k0 k1 hc2 hg0 hg1 hrd); have HC2 := Aside0.mk hc2; clear hc2 hg0 hg1 hrd HSC HSP)
        | (go_at_call 26; refine HSD.out.mono ?_; rintro e w3 ⟨tv, rfl, hw3, hz3, hc3, hse, hen, htv⟩; have HA3 := Aside0.mk (HA1.out w3 ((HC2.out.mono (by simp)).trans hc3)); clear HSD HC2 HA1; simp only at hz3 hw3 hen; unfold tokV at htv; rw [if_neg HCE.out, Nat.zero_add] at htv; subst htv; have hd1 := fun n => Win.string (P := Tryd.prog) (c := cap - st) (w := w3.drewN n) (hw3.block rfl) (by omega) st en hse hen Tryd.underlying46 Tryd.underlying5 Tryd.underlying9 st (.inr (by omega)); have hd2 := fun n => Win.string (P := Tryd.prog) (c := cap) (w := w3.drewN n) (hw3.block rfl) (by omega) 0 data.size (Nat.zero_le _) (Nat.le_refl _) Tryd.underlying46 Tryd.underlying5 Tryd.underlying9 0 (.inr rfl); simp only [cut_all, Nat.sub_zero] at hd2; rw [hz3] at hd2; have hd3 : ∀ (A : Option Addr) (l c n : Nat), (binOp .neq 46 (.slice A l c) (.slice none 0 0)).run Tryd.prog (w3.drewN n) = .ok (.bool (!A.isNone)) (w3.drewN n) := fun A l c n => run_neq_slice_nil _ 46 5 A l c Tryd.underlying46; clear hw3 hz3 hc3))
      go_quiet (fail)
      go_wp2_with fail
      (try simp only [Exit.inBlock, Exit.then])
      refine bodyPost_ret (results_tmp4 rfl _ _ _) rfl ?_
      exact ⟨rfl, ((Chg.below HA3.out).drewN _).toBelow (Nat.le_refl _) (by simp)⟩
end Go.Proofs.YtpjnebmcbeblkaaDoor.Sn
namespace Go.Proofs.YtpjnebmcbeblkaaDoor.P
open Go.RowKit Go.Proofs.YtpjnebmcbeblkaaDoor.Sn
def impl_Sentence.f (x0 f0 f1 : ByteArray) (f2 f3 : Bool) (f4 : Int) (x2 : Bool) : Option (Int × ByteArray × Bool × ByteArray) :=
  if x0.size ≤ 1000 ∧ f0.size ≤ 1000 ∧ f1.size ≤ 1000 then some (((call (spOf f0 f1 f2 f3 f4) x0 x2).adv : Int), tokOf (call (spOf f0 f1 f2 f3 f4) x0 x2), (call (spOf f0 f1 f2 f3 f4) x0 x2).tok.isSome, (call (spOf f0 f1 f2 f3 f4) x0 x2).data) else none
theorem impl_Sentence.calls (x0 f0 f1 : ByteArray) (f2 f3 : Bool) (f4 : Int) (x2 : Bool) (r0 : Int) (r1 : ByteArray) (r2 : Bool) (r3 : ByteArray) (w : World) (ht : Go.Proofs.YtpjnebmcbeblkaaDoor.X.Tabs w) (h : impl_Sentence.f x0 f0 f1 f2 f3 f4 x2 = some (r0, r1, r2, r3)) :
    Calls Tryd.prog 9 #[.string x0, .agg #[.string f0, .string f1, .bool f2, .bool f3, .int .i64 f4], .bool x2] w fun e w' => e = .returned (.tuple #[.int .i64 r0, .string r1, .bool r2, .string r3]) ∧ Below w.heap.size w w' := by
  unfold impl_Sentence.f at h
  split at h
  · rename_i hb
    injection h with h
    simp only [Prod.mk.injEq] at h
    obtain ⟨rfl, rfl, rfl, rfl⟩ := h
    exact sentence_calls w x0 f0 f1 f2 f3 f4 x2 ht hb.1 hb.2.1 hb.2.2 _ rfl
  · exact absurd h (by simp)
end Go.Proofs.YtpjnebmcbeblkaaDoor.P
namespace Go.Proofs.YtpjnebmcbeblkaaDoor.Sn
open Go.RowKit Go.Lib
theorem space_off {o : Sp} (h : o.skip = false) (r : Int) : space o r = false := by unfold space; rw [h]; rfl
theorem put_same (s : ByteArray) (p n : Nat) : put s p p n = s := by unfold put; rw [if_pos rfl]
theorem tail_adv (o : Sp) (st : Nat) : ∀ (k : Nat) (d : ByteArray) (p e : Nat) (nn : Bool), p ≤ d.size → (tail o st k d p e nn).adv ≤ d.size
  | 0, d, p, e, nn, h => h
  | k + 1, d, p, e, nn, h => by
    rw [tail]
    by_cases hlt : p < d.size
    · rw [if_pos hlt]
      have h1 := sg_le d p hlt
      split
      · split
        · split
          · exact h1
          · exact tail_adv o st k d _ _ _ h1
        · exact tail_adv o st k d _ _ _ h1
      · split
        · have := tail_adv o st k (put d e p (sg d p).2) (p + (sg d p).2) (e + (sg d p).2) nn (by rw [put_size]; exact h1)
          rw [put_size] at this
          exact this
        · exact h
    · rw [if_neg hlt]; exact h
theorem scan_adv (o : Sp) (eof : Bool) : ∀ (k : Nat) (d : ByteArray) (p st e : Nat) (rc : Int) (head nn : Bool), p ≤ d.size → st ≤ p → (scan o eof k d p st e rc head nn).adv ≤ d.size
  | 0, d, p, st, e, rc, head, nn, h, h2 => Nat.zero_le _
  | k + 1, d, p, st, e, rc, head, nn, h, h2 => by
    rw [scan]
    by_cases hlt : p < d.size
    · rw [if_pos hlt]
      have h1 := sg_le d p hlt
      split
      · split
        · exact scan_adv o eof k d _ _ _ _ _ _ h1 (Nat.le_refl _)
        · split
          · exact h1
          · split
            · split
              · exact h1
              · exact scan_adv o eof k d _ _ _ _ _ _ h1 (by omega)
            · exact scan_adv o eof k d _ _ _ _ _ _ h1 (by omega)
      · split
        · exact h1
        · split
          · have := scan_adv o eof k (put d e p (sg d p).2) (p + (sg d p).2) st (e + (sg d p).2) (rc + 1) false ((o.lines && ((sg d p).1 : Int) == 10) || nn) (by rw [put_size]; exact h1) (by omega)
            rw [put_size] at this
            exact this
          · have := tail_adv o st (d.size + 1) (put d e p (sg d p).2) (p + (sg d p).2) (e + (sg d p).2) false (by rw [put_size]; exact h1)
            rw [put_size] at this
            exact this
    · rw [if_neg hlt]
      split
      · exact Nat.le_refl _
      · exact Nat.le_trans h2 h
theorem call_adv (o : Sp) (s : ByteArray) (eof : Bool) : (call o s eof).adv ≤ s.size := by
  unfold call
  split
  · exact Nat.zero_le _
  · exact scan_adv o eof _ s 0 0 0 0 true false (Nat.zero_le _) (Nat.le_refl _)
theorem tail_plain {o : Sp} (ho : o.skip = false) (st : Nat) : ∀ (k : Nat) (d : ByteArray) (p : Nat) (nn : Bool), p ≤ d.size → ∃ q, p ≤ q ∧ q ≤ d.size ∧ tail o st k d p p nn = ⟨q, some (st, q), d⟩
  | 0, d, p, nn, h => ⟨p, Nat.le_refl _, h, rfl⟩
  | k + 1, d, p, nn, h => by
    rw [tail]
    by_cases hlt : p < d.size
    · rw [if_pos hlt, if_neg (by rw [space_off ho]; decide), put_same]
      have h1 := sg_le d p hlt
      split
      · obtain ⟨q, q1, q2, q3⟩ := tail_plain ho st k d (p + (sg d p).2) nn h1
        exact ⟨q, by omega, q2, q3⟩
      · exact ⟨p, Nat.le_refl _, h, rfl⟩
    · rw [if_neg hlt]; exact ⟨p, Nat.le_refl _, h, rfl⟩
theorem scan_plain {o : Sp} (ho : o.skip = false) (eof : Bool) (st : Nat) : ∀ (k : Nat) (d : ByteArray) (p : Nat) (rc : Int) (head nn : Bool), p ≤ d.size → d.size < p + k →
    (∃ q, p ≤ q ∧ q ≤ d.size ∧ scan o eof k d p st p rc head nn = ⟨q, some (st, q), d⟩) ∨ (eof = false ∧ scan o eof k d p st p rc head nn = ⟨st, none, d⟩)
  | 0, d, p, rc, head, nn, h, hk => by omega
  | k + 1, d, p, rc, head, nn, h, hk => by
    rw [scan]
    by_cases hlt : p < d.size
    · rw [if_pos hlt, if_neg (by rw [space_off ho]; decide), put_same]
      have h1 := sg_le d p hlt
      have h0 := sg_pos d p hlt
      split
      · exact .inl ⟨_, by omega, h1, rfl⟩
      · split
        · rcases scan_plain ho eof st k d (p + (sg d p).2) (rc + 1) false ((o.lines && ((sg d p).1 : Int) == 10) || nn) h1 (by omega) with ⟨q, q1, q2, q3⟩ | h3
          · exact .inl ⟨q, by omega, q2, q3⟩
          · exact .inr h3
        · obtain ⟨q, q1, q2, q3⟩ := tail_plain ho st (d.size + 1) d (p + (sg d p).2) false h1
          exact .inl ⟨q, by omega, q2, q3⟩
    · rw [if_neg hlt]
      have hp : p = d.size := by omega
      cases eof with
      | true => rw [if_pos rfl, ← hp]; exact .inl ⟨p, Nat.le_refl _, by omega, rfl⟩
      | false => rw [if_neg (by decide), hp, Nat.sub_self]; exact .inr ⟨rfl, rfl⟩
theorem call_plain {o : Sp} (ho : o.skip = false) (s : ByteArray) (eof : Bool) : (∃ q, q ≤ s.size ∧ call o s eof = ⟨q, some (0, q), s⟩) ∨ call o s eof = ⟨0, none, s⟩ := by
  unfold call
  split
  · exact .inr rfl
  · rcases scan_plain ho eof 0 (s.size + 1) s 0 0 true false (Nat.zero_le _) (by omega) with ⟨q, _, h2, h3⟩ | ⟨_, h⟩
    · exact .inl ⟨q, h2, h3⟩
    · exact .inr h
theorem empty_list : (ByteArray.empty).toList = ([] : List UInt8) := by rw [ByteArray.toList_eq]; rfl
end Go.Proofs.YtpjnebmcbeblkaaDoor.Sn
namespace Go.Proofs.YtpjnebmcbeblkaaDoor.P
open Go.Proofs.YtpjnebmcbeblkaaDoor.Sn
/-- What a call tells, for the walk of the law. -/
theorem Sentence_told {x0 f0 f1 : ByteArray} {f2 f3 : Bool} {f4 : Int} {x2 : Bool} {r0 : Int} {r1 : ByteArray} {r2 : Bool} {r3 : ByteArray} (h : impl_Sentence.f x0 f0 f1 f2 f3 f4 x2 = some (r0, r1, r2, r3)) :
    (r0 ≥ 0 ∧ r0 ≤ (x0.size : Int)) ∧ (r2 = false → r1.toList = ([] : List UInt8)) ∧ (f2 = false → r3.toList = x0.toList) := by
  unfold impl_Sentence.f at h
  split at h
  · injection h with h
    simp only [Prod.mk.injEq] at h
    obtain ⟨rfl, rfl, rfl, rfl⟩ := h
    refine ⟨⟨by omega, by have := call_adv (spOf f0 f1 f2 f3 f4) x0 x2; omega⟩, fun h => ?_, fun h => ?_⟩
    · unfold tokOf
      cases ht : (call (spOf f0 f1 f2 f3 f4) x0 x2).tok with
      | none => exact empty_list
      | some t => rw [ht] at h; cases h
    · rcases call_plain (o := spOf f0 f1 f2 f3 f4) h x0 x2 with ⟨q, _, hq⟩ | hq
      · rw [hq]
      · rw [hq]
  · cases h
theorem Sentence_canary : impl_Sentence.f (⟨#[97, 46, 98]⟩ : ByteArray) (⟨#[46]⟩ : ByteArray) (⟨#[]⟩ : ByteArray) false false 10 true = some (2, (⟨#[97, 46]⟩ : ByteArray), true, (⟨#[97, 46, 98]⟩ : ByteArray)) := by
  decide +kernel
theorem Canary_told {r0 : Int} {r1 : ByteArray} {r2 : Bool} {r3 : ByteArray} (h : impl_Sentence.f (⟨#[97, 46, 98]⟩ : ByteArray) (⟨#[46]⟩ : ByteArray) (⟨#[]⟩ : ByteArray) false false 10 true = some (r0, r1, r2, r3)) :
    r0 = 2 ∧ r1.toList = ([97, 46] : List UInt8) ∧ r2 = true ∧ r3.toList = ([97, 46, 98] : List UInt8) := by
  rw [Sentence_canary] at h
  injection h with h
  simp only [Prod.mk.injEq] at h
  obtain ⟨rfl, rfl, rfl, rfl⟩ := h
  exact ⟨rfl, by rw [ByteArray.toList_eq], rfl, by rw [ByteArray.toList_eq]⟩
end Go.Proofs.YtpjnebmcbeblkaaDoor.P
namespace Go.Proofs.YtpjnebmcbeblkaaDoor.Sn
open Go.RowKit Go.Lib Go.Proofs.YtpjnebmcbeblkaaDoorW.PrintWords Go.Proofs.YtpjnebmcbeblkaaDoor.Gn Go.Proofs.YtpjnebmcbeblkaaDoor.X
theorem tail_ge (o : Sp) (st : Nat) : ∀ (k : Nat) (d : ByteArray) (p e : Nat) (nn : Bool), p ≤ (tail o st k d p e nn).adv
  | 0, d, p, e, nn => Nat.le_refl _
  | k + 1, d, p, e, nn => by
    rw [tail]
    split
    · split
      · split
        · split
          · exact Nat.le_add_right _ _
          · exact Nat.le_trans (Nat.le_add_right _ _) (tail_ge o st k d _ _ _)
        · exact Nat.le_trans (Nat.le_add_right _ _) (tail_ge o st k d _ _ _)
      · split
        · exact Nat.le_trans (Nat.le_add_right _ _) (tail_ge o st k _ _ _ _)
        · exact Nat.le_refl _
    · exact Nat.le_refl _
theorem scan_pos (o : Sp) : ∀ (k : Nat) (d : ByteArray) (p st e : Nat) (rc : Int) (head nn : Bool), 0 < d.size → (scan o true k d p st e rc head nn).tok.isSome = true → 0 < (scan o true k d p st e rc head nn).adv
  | 0, d, p, st, e, rc, head, nn, hd, h => by cases h
  | k + 1, d, p, st, e, rc, head, nn, hd, h => by
    rw [scan] at h ⊢
    by_cases hlt : p < d.size
    · have hg := sg_pos d p hlt
      rw [if_pos hlt] at h ⊢
      by_cases c1 : space o (sg d p).1 = true
      · rw [if_pos c1] at h ⊢
        by_cases c2 : head = true
        · rw [if_pos c2] at h ⊢; exact scan_pos o k d _ _ _ _ _ _ hd h
        · rw [if_neg c2] at h ⊢
          by_cases c3 : isD o (sg d p).1 = true
          · rw [if_pos c3]; show 0 < p + _; omega
          · rw [if_neg c3] at h ⊢
            by_cases c4 : (o.lines && ((sg d p).1 : Int) == 10) = true
            · rw [if_pos c4] at h ⊢
              by_cases c5 : nn = true
              · rw [if_pos c5]; show 0 < p + _; omega
              · rw [if_neg c5] at h ⊢; exact scan_pos o k d _ _ _ _ _ _ hd h
            · rw [if_neg c4] at h ⊢; exact scan_pos o k d _ _ _ _ _ _ hd h
      · rw [if_neg c1] at h ⊢
        by_cases c2 : ((o.lines && ((sg d p).1 : Int) == 10) && nn) = true
        · rw [if_pos c2]; show 0 < p + _; omega
        · rw [if_neg c2] at h ⊢
          by_cases c3 : (!(isD o (sg d p).1) && decide (rc + 1 < o.max)) = true
          · rw [if_pos c3] at h ⊢; exact scan_pos o k _ _ _ _ _ _ _ (by rw [put_size]; exact hd) h
          · rw [if_neg c3]
            have := tail_ge o st (d.size + 1) (put d e p (sg d p).2) (p + (sg d p).2) (e + (sg d p).2) false
            omega
    · rw [if_neg hlt, if_pos rfl]
      exact hd
theorem call_pos (o : Sp) (d : ByteArray) (h : (call o d true).tok.isSome = true) : 0 < (call o d true).adv := by
  unfold call at h ⊢
  by_cases hz : (true && d.size == 0) = true
  · rw [if_pos hz] at h; cases h
  · rw [if_neg hz] at h ⊢
    have : 0 < d.size := by
      rcases Nat.eq_zero_or_pos d.size with h0 | h0
      · exact absurd (by rw [h0]; rfl) hz
      · exact h0
    exact scan_pos o _ d 0 0 0 0 true false this h
theorem Rd.below {o : Sp} {A0 A1 : Option Addr} {c0 c1 : Nat} {w W : World} (h : Rd o A0 A1 c0 c1 w) (hb : Below w.heap.size w W) : Rd o A0 A1 c0 c1 W :=
  ⟨Kd.C_below h.r0 hb, h.h0, h.l0, Kd.C_below h.r1 hb, h.h1, h.l1⟩
/-- The usual splitter. -/
def usual : Sp := ⟨[12290, 65294, 65281, 33, 65311, 63], [46, 65379, 12301, 12303, 41, 65289, 65373, 125, 12297, 12299], true, true, 128⟩
theorem lit_row {W : World} {g : Nat} {T : TypeId} {fz : Nat × Nat} (xs : List Int) (hl : xs.length ≤ 1000) (h : W.heap[g]? = some (.cells (xs.map (Value.int .i32)).toArray T fz)) : Kd.C (Kd.int .i32) W (some ⟨g, 0, none⟩) xs.length xs := by
  refine Kd.C_of_reads (d := 0) (h1 := fun _ => rfl) ⟨rfl, by omega, fun _ => ⟨_, rfl, fun j hj => ?_⟩⟩
  rw [add0]
  simp [World.cell?, h, hj]
set_option maxHeartbeats 2000000 in
set_option maxRecDepth 100000 in
theorem default_calls (w : World) : Calls Tryd.prog 47 #[] w fun e W => ∃ gd g0 g1, e = .returned (.pointer (some ⟨gd, 0, none⟩)) ∧ Chg [] w W ∧ w.heap.size ≤ g0 ∧ w.heap.size ≤ g1 ∧ W.heap[gd]? = some (.cells #[.slice (some ⟨g0, 0, none⟩) 6 6, .slice (some ⟨g1, 0, none⟩) 10 10, .bool true, .bool true, .int .i64 128] 52 (0, 0)) ∧ Rd usual (some ⟨g0, 0, none⟩) (some ⟨g1, 0, none⟩) 6 10 W := by
  go_enter Tryd.func47, Tryd.ntmps47
  go_wp2_with fail
  go_ret
  have h3 := fun c1 c2 c3 => heap_alloc_new ((w.alloc c1).alloc c2) c3
  have h1 : ∀ c1 c2 c3, (((w.alloc c1).alloc c2).alloc c3).heap[w.heap.size]? = some c1 := fun c1 c2 c3 => by
    rw [Below.heap_alloc _ _ _ (by rw [size_alloc, size_alloc]; omega), Below.heap_alloc _ _ _ (by rw [size_alloc]; omega)]
    exact heap_alloc_new _ _
  have h2 : ∀ c1 c2 c3, (((w.alloc c1).alloc c2).alloc c3).heap[w.heap.size + 1]? = some c2 := fun c1 c2 c3 => by
    rw [Below.heap_alloc _ _ _ (by rw [size_alloc, size_alloc]; omega)]
    have := heap_alloc_new (w.alloc c1) c2
    rw [size_alloc] at this
    exact this
  simp only [size_alloc] at h3
  refine ⟨w.heap.size + 1 + 1, w.heap.size, w.heap.size + 1, rfl, (((Chg.refl [] w).alloc _).alloc _).alloc _, Nat.le_refl _, Nat.le_succ _, h3 _ _ _, ?_, Nat.le_refl _, by decide, ?_, Nat.le_refl _, by decide⟩
  · exact lit_row usual.ends (by decide) (h1 _ _ _)
  · exact lit_row usual.fol (by decide) (h2 _ _ _)
set_option maxHeartbeats 2000000 in
set_option maxRecDepth 100000 in
theorem usual_calls (W : World) (b M off cap : Nat) (d : ByteArray) (eof : Bool) (hW : Win W b M off d) (hd : d.size ≤ 1000) (hc : d.size ≤ cap) (hT : ∀ W', Chg [b] W W' → Tabs W') :
    Calls Tryd.prog 39 #[.slice (some ⟨b, off, none⟩) d.size cap, .bool eof] W (Told W b M off cap d.size (call usual d eof)) := by
  have HD := Aside0.mk (default_calls W)
  have HSC : Aside0 (∀ (w1 : World) (g0 g1 : Nat), Chg [] W w1 → W.heap.size ≤ g0 → W.heap.size ≤ g1 → Rd usual (some ⟨g0, 0, none⟩) (some ⟨g1, 0, none⟩) 6 10 w1 → Calls Tryd.prog 26 #[.agg #[.slice (some ⟨g0, 0, none⟩) 6 6, .slice (some ⟨g1, 0, none⟩) 10 10, .bool true, .bool true, .int .i64 128], .slice (some ⟨b, off, none⟩) d.size cap, .bool eof] w1 (Told W b M off cap d.size (call usual d eof))) := ⟨fun w1 g0 g1 h1 h2 h3 h4 => by
    have hbl := hW.lt
    have := scan_calls w1 b M off cap d (some ⟨g0, 0, none⟩) (some ⟨g1, 0, none⟩) 6 10 usual eof (hW.chg h1 (by simp)) (by omega) hc (fun W' hW' => ⟨h4.chg hW' (by simp; omega) (by simp; omega), hT W' ((h1.mono (by simp)).trans hW')⟩)
    refine this.mono ?_
    rintro e w' ⟨tv, q1, q2, q3, q4, q5⟩
    exact ⟨tv, q1, q2, q3, (h1.mono (by simp)).trans q4, q5⟩⟩
  clear hW hT
  go_enter Tryd.func39, Tryd.ntmps39
  go_wp2_with (first
    | (go_at_call 47; refine HD.out.mono ?_; rintro e w1 ⟨gd, g0, g1, rfl, hc1, h0, h1, hb, hr⟩; have HS1 := Aside0.mk (HSC.out w1 g0 g1 hc1 h0 h1 hr); have y0 := cell_of (i := 0) hb rfl; have y1 := cell_of (i := 1) hb rfl; have y2 := cell_of (i := 2) hb rfl; have y3 := cell_of (i := 3) hb rfl; have y4 := cell_of (i := 4) hb rfl; clear hc1 h0 h1 hb hr HSC HD)
    | (go_at_call 26; refine HS1.out.mono ?_; rintro e w2 ⟨tv, rfl, q2, q3, q4, q5⟩; have HF := Aside0.mk (And.intro q2 (And.intro q3 (And.intro q4 q5))); clear q2 q3 q4 q5 HS1))
  go_ret3
  exact ⟨tv, rfl, HF.out.1, HF.out.2.1, HF.out.2.2.1, HF.out.2.2.2⟩
end Go.Proofs.YtpjnebmcbeblkaaDoor.Sn
namespace Go.Proofs.YtpjnebmcbeblkaaDoor.Sn
open Go.RowKit Go.Lib
theorem tail_data (o : Sp) (st : Nat) : ∀ (k : Nat) (d : ByteArray) (p e : Nat) (nn : Bool), (tail o st k d p e nn).data.size = d.size
  | 0, d, p, e, nn => rfl
  | k + 1, d, p, e, nn => by
    rw [tail]
    split
    · split
      · split
        · split
          · rfl
          · exact tail_data o st k d _ _ _
        · exact tail_data o st k d _ _ _
      · split
        · rw [tail_data o st k, put_size]
        · rfl
    · rfl
theorem scan_data (o : Sp) (eof : Bool) : ∀ (k : Nat) (d : ByteArray) (p st e : Nat) (rc : Int) (head nn : Bool), (scan o eof k d p st e rc head nn).data.size = d.size
  | 0, d, p, st, e, rc, head, nn => rfl
  | k + 1, d, p, st, e, rc, head, nn => by
    rw [scan]
    split
    · split
      · split
        · exact scan_data o eof k d _ _ _ _ _ _
        · split
          · rfl
          · split
            · split
              · rfl
              · exact scan_data o eof k d _ _ _ _ _ _
            · exact scan_data o eof k d _ _ _ _ _ _
      · split
        · exact put_size _ _ _ _
        · split
          · rw [scan_data o eof k, put_size]
          · rw [tail_data, put_size]
    · split
      · rfl
      · exact blank_size _ _ _
theorem call_data (o : Sp) (d : ByteArray) (eof : Bool) : (call o d eof).data.size = d.size := by
  unfold call
  split
  · rfl
  · exact scan_data o eof _ d _ _ _ _ _ _
theorem scan_pos2 (o : Sp) (eof : Bool) : ∀ (k : Nat) (d : ByteArray) (p st e : Nat) (rc : Int) (head nn : Bool), 0 < d.size → (scan o eof k d p st e rc head nn).tok.isSome = true → 0 < (scan o eof k d p st e rc head nn).adv
  | 0, d, p, st, e, rc, head, nn, hd, h => by cases h
  | k + 1, d, p, st, e, rc, head, nn, hd, h => by
    rw [scan] at h ⊢
    by_cases hlt : p < d.size
    · have hg := sg_pos d p hlt
      rw [if_pos hlt] at h ⊢
      by_cases c1 : space o (sg d p).1 = true
      · rw [if_pos c1] at h ⊢
        by_cases c2 : head = true
        · rw [if_pos c2] at h ⊢; exact scan_pos2 o eof k d _ _ _ _ _ _ hd h
        · rw [if_neg c2] at h ⊢
          by_cases c3 : isD o (sg d p).1 = true
          · rw [if_pos c3]; show 0 < p + _; omega
          · rw [if_neg c3] at h ⊢
            by_cases c4 : (o.lines && ((sg d p).1 : Int) == 10) = true
            · rw [if_pos c4] at h ⊢
              by_cases c5 : nn = true
              · rw [if_pos c5]; show 0 < p + _; omega
              · rw [if_neg c5] at h ⊢; exact scan_pos2 o eof k d _ _ _ _ _ _ hd h
            · rw [if_neg c4] at h ⊢; exact scan_pos2 o eof k d _ _ _ _ _ _ hd h
      · rw [if_neg c1] at h ⊢
        by_cases c2 : ((o.lines && ((sg d p).1 : Int) == 10) && nn) = true
        · rw [if_pos c2]; show 0 < p + _; omega
        · rw [if_neg c2] at h ⊢
          by_cases c3 : (!(isD o (sg d p).1) && decide (rc + 1 < o.max)) = true
          · rw [if_pos c3] at h ⊢; exact scan_pos2 o eof k _ _ _ _ _ _ _ (by rw [put_size]; exact hd) h
          · rw [if_neg c3]
            have := tail_ge o st (d.size + 1) (put d e p (sg d p).2) (p + (sg d p).2) (e + (sg d p).2) false
            omega
    · rw [if_neg hlt] at h ⊢
      cases eof with
      | true => rw [if_pos rfl]; exact hd
      | false => rw [if_neg (by decide)] at h; cases h
theorem call_pos2 (o : Sp) (d : ByteArray) (eof : Bool) (hd : 0 < d.size) (h : (call o d eof).tok.isSome = true) : 0 < (call o d eof).adv := by
  unfold call at h ⊢
  by_cases hz : (eof && d.size == 0) = true
  · rw [if_pos hz] at h; cases h
  · rw [if_neg hz] at h ⊢
    exact scan_pos2 o eof _ d 0 0 0 0 true false hd h
theorem call_none (o : Sp) (d : ByteArray) (h : d.size = 0) : (call o d true).tok = none := by
  unfold call
  rw [if_pos (by rw [h]; rfl)]
theorem cut_less {o : Sp} {d : ByteArray} {eof : Bool} (hd : 0 < d.size) (h : (call o d eof).tok.isSome = true) : (cut (call o d eof).data (call o d eof).adv d.size).size < d.size := by
  have h1 := call_pos2 o d eof hd h
  rw [cut_size _ _ _ (by rw [call_data]; exact Nat.le_refl _)]
  omega
theorem goC_less (o : Sp) (d : ByteArray) (t : ByteArray) (ph' : Nat) (d' : ByteArray) (h : goC (call o) d = (some t, ph', d')) : d'.size < d.size ∧ ph' = 2 := by
  unfold goC at h
  cases ht : (call o d true).tok with
  | none => rw [ht] at h; simp at h
  | some x =>
    rw [ht] at h
    simp only [Prod.mk.injEq] at h
    have hd : 0 < d.size := by
      rcases Nat.eq_zero_or_pos d.size with h0 | h0
      · rw [call_none o d h0] at ht; cases ht
      · exact h0
    rw [← h.2.2]
    exact ⟨cut_less hd (by rw [ht]; rfl), h.2.1.symm⟩
theorem goB_less (o : Sp) (d : ByteArray) (t : ByteArray) (ph' : Nat) (d' : ByteArray) (h : goB (call o) d = (some t, ph', d')) : d'.size < d.size ∧ (ph' = 1 ∨ ph' = 2) := by
  unfold goB at h
  by_cases h0 : d.size = 0
  · rw [if_pos h0] at h
    have := goC_less o d t ph' d' h
    exact ⟨this.1, .inr this.2⟩
  · rw [if_neg h0] at h
    cases ht : (call o d false).tok with
    | none =>
      rw [ht] at h
      have := goC_less o _ t ph' d' h
      rw [cut_size _ _ _ (by rw [call_data]; exact Nat.le_refl _)] at this
      exact ⟨by omega, .inr this.2⟩
    | some x =>
      rw [ht] at h
      simp only [Prod.mk.injEq] at h
      rw [← h.2.2]
      exact ⟨cut_less (by omega) (by rw [ht]; rfl), .inl h.2.1.symm⟩
theorem run_less (o : Sp) (ph : Nat) (d : ByteArray) (t : ByteArray) (ph' : Nat) (d' : ByteArray) (h : run (call o) ph d = (some t, ph', d')) : d'.size < d.size := by
  match ph with
  | 0 =>
    rw [run, goA] at h
    by_cases h0 : d.size = 0
    · rw [if_pos h0] at h; exact (goC_less o d t ph' d' h).1
    · rw [if_neg h0] at h; exact (goB_less o d t ph' d' h).1
  | 1 => exact (goB_less o d t ph' d' h).1
  | n + 2 => exact (goC_less o d t ph' d' h).1
/-- All tokens. -/
def toks (sp : ByteArray → Bool → Out) : Nat → Nat → ByteArray → List ByteArray
  | 0, _, _ => []
  | k + 1, ph, d => match run sp ph d with
    | (some t, ph', d') => t :: toks sp k ph' d'
    | (none, _, _) => []
theorem toks_length (o : Sp) : ∀ (k ph : Nat) (d : ByteArray), (toks (call o) k ph d).length ≤ d.size
  | 0, ph, d => Nat.zero_le _
  | k + 1, ph, d => by
    rw [toks]
    split
    · rename_i t ph' d' h
      have h1 := run_less o ph d t ph' d' h
      have h2 := toks_length o k ph' d'
      rw [List.length_cons]
      omega
    · exact Nat.zero_le _
end Go.Proofs.YtpjnebmcbeblkaaDoor.Sn
