/- What reads as data of a type reads as its kind: for rows of laws over texts, lists and structs. No condition. -/
import Derived.Test.YtpjnebmcbeblkaaDoorWWords
import Derived.Deep.Slices
import Derived.ChangeArms
import Derived.SliceStrings
set_option linter.unusedVariables false
namespace Go.Proofs.YtpjnebmcbeblkaaDoor.X
open Go.Proofs.YtpjnebmcbeblkaaDoorW.PrintWords

/-- Whatever reads as data of type t reads as the kind d says, and is good. -/
def Opens (P : Program) (t : TypeId) {α : Type} (d : Kd α) (good : α → Prop) : Prop :=
  ∀ {H : Type} (enc : TypeId × Value → H) (w : World) (base : Nat) (spare : Nat → Bool) (held : Bool) (fuel : Nat) (cs : List Value) (y : DataW H × List MemPlace), DataW.trod enc P w base spare held fuel t cs = some y → ∃ x, d.K w x cs ∧ good x

theorem opens_int {P : Program} {t : TypeId} {k : IntKind} (hu : P.underlying t = some (.int k)) : Opens P t (Kd.int k) (fun x => (Lit.int k x).wf = true) := by
  intro H enc w base spare held fuel cs y h
  obtain ⟨n, rfl, _, hw⟩ := DataW.trod_int hu h
  exact ⟨n, rfl, hw⟩
theorem opens_bool {P : Program} {t : TypeId} (hu : P.underlying t = some .bool) : Opens P t Kd.bool (fun _ => True) := by
  intro H enc w base spare held fuel cs y h
  obtain ⟨b, rfl, _⟩ := DataW.trod_bool hu h
  exact ⟨b, rfl, trivial⟩
theorem opens_string {P : Program} {t : TypeId} (hu : P.underlying t = some .string) : Opens P t Kd.string (fun s => s.size ≤ 9223372036854775807) := by
  intro H enc w base spare held fuel cs y h
  obtain ⟨s, rfl, _, hs⟩ := DataW.trod_string hu h
  exact ⟨s, rfl, hs⟩

theorem list_of {α : Type} (n : Nat) (p : Nat → α → Prop) (h : ∀ i, i < n → ∃ x, p i x) : ∃ xs : List α, xs.length = n ∧ ∀ i x, xs[i]? = some x → p i x := by
  induction n with
  | zero => exact ⟨[], rfl, fun i x hx => by simp at hx⟩
  | succ n ih =>
    obtain ⟨xs, hl, hx⟩ := ih (fun i hi => h i (by omega))
    obtain ⟨y, hy⟩ := h n (by omega)
    refine ⟨xs ++ [y], by simp [hl], fun i x hi => ?_⟩
    rcases Nat.lt_or_ge i xs.length with h1 | h1
    · rw [List.getElem?_append_left h1] at hi
      exact hx i x hi
    · have h2 : i = n := by
        have := (List.getElem?_eq_some_iff.1 hi).1
        simp at this
        omega
      subst h2
      rw [List.getElem?_append_right h1] at hi
      simp [hl] at hi
      subst hi
      exact hy

theorem cells_each {w : World} {base : Nat} {a : Addr} {n : Nat} {cs : List Value} (h : w.cells? base a n = some cs) : cs.length = n ∧ ∀ i u, cs[i]? = some u → w.cell? (a.add i) = some u := by
  unfold World.cells? at h
  split at h
  · have hl := mapM_some_length h
    rw [List.length_range] at hl
    refine ⟨hl, fun i u hu => ?_⟩
    have hi : i < n := by
      have := (List.getElem?_eq_some_iff.1 hu).1
      omega
    have := mapM_some_get h i i (by simp [hi])
    rw [this]
    exact hu
  · cases h

theorem addr_add_add (a : Addr) (m n : Nat) : (a.add m).add n = a.add (m + n) := by
  unfold Addr.add
  by_cases hm : m = 0
  · subst hm
    simp
  · by_cases hn : n = 0
    · subst hn
      simp [hm]
    · simp [hm, hn, Nat.add_assoc]

theorem opens_slice {P : Program} {t e : TypeId} {α : Type} {d : Kd α} {good : α → Prop} (hu : P.underlying t = some (.slice e)) (hc : P.cellsOf e = d.sz) (h : Opens P e d good) :
    Opens P t (Kd.slice e d) (fun xs => xs.length ≤ 9223372036854775807 ∧ ∀ x ∈ xs, good x) := by
  intro H enc w base spare held fuel cs y hy
  rcases DataW.trod_slice hu hy with ⟨rfl, _⟩ | ⟨a, len, cap, elems, rest, n, _, rfl, _, hb, hl, hm, hlen, hel, _, _⟩
  · exact ⟨[], ⟨none, 0, rfl, Nat.le_refl _, rfl, by simp, fun h0 => absurd h0 (by simp)⟩, by simp, fun x hx => by simp at hx⟩
  · have each : ∀ i, i < len → ∃ x, (∃ c, w.cells? base (a.add (i * P.cellsOf e)) (P.cellsOf e) = some c ∧ d.K w x c) ∧ good x := by
      intro i hi
      have h1 := hel i hi
      rw [List.getElem?_eq_getElem (by omega)] at h1
      obtain ⟨c, hc1, hc2⟩ := Option.bind_eq_some_iff.1 h1
      obtain ⟨x, hx, hg⟩ := h enc w base spare held n c _ hc2
      exact ⟨x, ⟨c, hc1, hx⟩, hg⟩
    obtain ⟨xs, hxl, hxs⟩ := list_of len _ each
    have hm' : cap ≤ 9223372036854775807 := hm
    refine ⟨xs, ⟨some a, cap, by rw [hxl], by omega, by rfl, by omega, fun _ => ⟨a, rfl, fun j p hj => ?_⟩⟩, by omega, fun x hx => ?_⟩
    · obtain ⟨⟨c, hc1, hc2⟩, _⟩ := hxs j p hj
      obtain ⟨hcl, hcc⟩ := cells_each hc1
      refine ⟨c, by rw [hcl, hc], hc2, fun i u hu => ?_⟩
      have := hcc i u hu
      rw [← this, hc, addr_add_add]
    · obtain ⟨i, hi, e1⟩ := List.getElem_of_mem hx
      exact (hxs i x (by rw [List.getElem?_eq_getElem hi, e1])).2
end Go.Proofs.YtpjnebmcbeblkaaDoor.X
