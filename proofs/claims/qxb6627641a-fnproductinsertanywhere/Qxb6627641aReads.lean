/-
  HOW THE ARGUMENTS READ: slices of strings, slices of products, a product by value.
-/
import Derived.Test.Qxb6627641aPlain
import Derived.ProofKit
import Derived.OpenShut
import Derived.ShutString
import Derived.ChangeOld
import Derived.Below
import Derived.Deep.Slices
import Derived.Lib.SmallJoins
namespace Go.Proofs.Qxb6627641a
open Go.ChangeShapes Go.WideShapes Go.ChangeAt Go.RowKit Go.Deep Go.Joins
open Go.ChangeMaps (open_string shut_string)

theorem own : ownKnob Try.prog.godebug = none := by kernel_rfl
theorem laidOut : laidOutB Try.prog = true := by kernel_rfl
theorem Try.cells43 : Try.prog.cellsOf 43 = 4 := by kernel_rfl
theorem Try.cells9 : Try.prog.cellsOf 9 = 1 := by kernel_rfl
theorem Try.cells33 : Try.prog.cellsOf 33 = 1 := by kernel_rfl
theorem Try.cells3 : Try.prog.cellsOf 3 = 1 := by kernel_rfl

theorem strRow_of {H : Type} {enc : TypeId × Value → H} {W : World} {base : Nat} {held : Bool} {a : Option Addr} {len cap : Nat} {d : DataW H} {p : List MemPlace}
    (h : DataW.Trod enc Try.prog W base (fun _ => true) held 22 (.slice a len cap) d p) : ∃ S, StrRow W a len S ∧ len ≤ maxLen := by
  obtain ⟨fuel, hf⟩ := h
  rcases open_strings Try.underlying22 Try.underlying9 Try.cells9 hf with ⟨hcs, _⟩ | ⟨x, l, c, ss, hcs, _, hl, hm, hz, _, hcell, _⟩
  · simp [Value.cells] at hcs
    obtain ⟨rfl, rfl, rfl⟩ := hcs
    exact ⟨fun _ => ByteArray.empty, .inl rfl, by unfold maxLen; omega⟩
  · simp [Value.cells] at hcs
    obtain ⟨rfl, rfl, rfl⟩ := hcs
    refine ⟨fun i => ss.getD i ByteArray.empty, ?_, by omega⟩
    simp only [if_true] at hz
    by_cases e : len = 0
    · exact .inl e
    · right
      obtain ⟨b, off, spot⟩ := x
      have hspot : spot = none := by simpa [Addr.add] using World.cell?_spot (hcell 0 (by omega))
      subst hspot
      exact ⟨b, off, rfl, fun i hi => by rw [← add_plain]; exact hcell i (by omega)⟩

/-- A pointer to days, as it reads. -/
theorem day_of {H : Type} {enc : TypeId × Value → H} {W : World} {base n : Nat} {held : Bool} {v : Value} {y : DataW H × List MemPlace}
    (h : DataW.trod enc Try.prog W base (fun _ => true) held n 33 [v] = some y) : ∃ dp dd, v = .pointer dp ∧ DayIs W dp dd := by
  rcases DataW.trod_pointer Try.underlying33 h with ⟨e, _⟩ | ⟨a, cs', y', m, _, e, _, hc, hy⟩
  · exact ⟨none, none, by simpa using e, .inl ⟨rfl, rfl⟩⟩
  · obtain ⟨x, rfl, _, _⟩ := DataW.trod_int Try.underlying3 hy
    rw [Try.cells3] at hc
    have hcell := cell_of_cells?_one hc
    obtain ⟨b, off, spot⟩ := a
    have hspot : spot = none := World.cell?_spot hcell
    subst hspot
    exact ⟨some ⟨b, off, none⟩, some x, by simpa using e, .inr ⟨b, off, x, rfl, rfl, hcell⟩⟩

/-- Four cells that read as a product. -/
theorem zp_of {H : Type} {enc : TypeId × Value → H} {W : World} {base n : Nat} {held : Bool} {cs : List Value} {y : DataW H × List MemPlace}
    (h : DataW.trod enc Try.prog W base (fun _ => true) held n 43 cs = some y) : ∃ z : ZP, cs = [.string z.st, .string z.id, .string z.en, .pointer z.dp] ∧ DayIs W z.dp z.dd := by
  obtain ⟨y0, y1, y2, y3, m, _, hl, h0, h1, h2, h3⟩ := trod_struct4 Try.underlying43 h
  rw [Try.cells43] at hl
  match cs, hl with
  | [v0, v1, v2, v3], _ =>
    simp [Try.cells9, Try.cells33] at h0 h1 h2 h3
    obtain ⟨s0, e0, _, _⟩ := DataW.trod_string Try.underlying9 h0
    obtain ⟨s1, e1, _, _⟩ := DataW.trod_string Try.underlying9 h1
    obtain ⟨s2, e2, _, _⟩ := DataW.trod_string Try.underlying9 h2
    obtain ⟨dp, dd, e3, hd⟩ := day_of h3
    simp at e0 e1 e2
    subst e0 e1 e2 e3
    exact ⟨⟨s0, s1, s2, dp, dd⟩, rfl, hd⟩

theorem zRow_of {H : Type} {enc : TypeId × Value → H} {W : World} {base : Nat} {held : Bool} {a : Option Addr} {len cap : Nat} {d : DataW H} {p : List MemPlace}
    (h : DataW.Trod enc Try.prog W base (fun _ => true) held 23 (.slice a len cap) d p) : ∃ Z, ZRow W a len Z ∧ len ≤ maxLen ∧ (a = none → len = 0) := by
  obtain ⟨fuel, hf⟩ := h
  rcases open_slice Try.underlying23 hf with ⟨hcs, _⟩ | ⟨x, l, c, m, n, D, Pl, hcs, _, hl, hm, hmm, _, hx⟩
  · simp [Value.cells] at hcs
    obtain ⟨rfl, rfl, rfl⟩ := hcs
    exact ⟨fun _ => zeroZ, .inl rfl, by unfold maxLen; omega, fun _ => rfl⟩
  · simp [Value.cells] at hcs
    obtain ⟨rfl, rfl, rfl⟩ := hcs
    simp only [if_true] at hmm
    have each : ∀ i, i < len → ∃ z : ZP, W.cells? base (x.add (i * 4)) 4 = some [.string z.st, .string z.id, .string z.en, .pointer z.dp] ∧ DayIs W z.dp z.dd := by
      intro i hi
      obtain ⟨cs', h1, h2⟩ := hx i (by omega)
      rw [Try.cells43] at h1
      obtain ⟨z, rfl, hz⟩ := zp_of h2
      exact ⟨z, h1, hz⟩
    have hin : Inhabited ZP := ⟨zeroZ⟩
    obtain ⟨Z, hZ⟩ := choose_lt each
    refine ⟨Z, ?_, by omega, fun h => by cases h⟩
    by_cases e : len = 0
    · exact .inl e
    · right
      obtain ⟨_, _, h0⟩ := World.cells?_some (hZ 0 (by omega)).1
      have hc0 := h0 0 (by omega)
      obtain ⟨b, off, spot⟩ := x
      have hspot : spot = none := by simpa [Addr.add] using World.cell?_spot hc0
      subst hspot
      refine ⟨b, off, rfl, fun i hi => ?_⟩
      obtain ⟨_, _, hc⟩ := World.cells?_some (hZ i hi).1
      have g0 := hc 0 (by omega)
      have g1 := hc 1 (by omega)
      have g2 := hc 2 (by omega)
      have g3 := hc 3 (by omega)
      rw [add_add, add_plain] at g0 g1 g2 g3
      exact ⟨by simpa using g0, by simpa [Nat.add_assoc] using g1, by simpa [Nat.add_assoc] using g2, by simpa [Nat.add_assoc] using g3, (hZ i hi).2⟩

theorem zp_val {H : Type} {enc : TypeId × Value → H} {W : World} {base b0 : Nat} {r : Reach} {held : Bool} {v : Value} {d : DataW H} {p : List MemPlace} (hv : Value.okWide Try.prog W r b0 43 v)
    (h : DataW.Trod enc Try.prog W base (fun _ => true) held 43 v d p) : ∃ z : ZP, v = .agg #[.string z.st, .string z.id, .string z.en, .pointer z.dp] ∧ DayIs W z.dp z.dd := by
  obtain ⟨v0, v1, v2, v3, y0, y1, y2, y3, n, rfl, _, _, h0, h1, h2, h3⟩ := open_agg4 Try.underlying43 (by kernel_rfl) Try.cells43 hv h
  obtain ⟨s0, e0, _, _⟩ := DataW.trod_string Try.underlying9 h0
  obtain ⟨s1, e1, _, _⟩ := DataW.trod_string Try.underlying9 h1
  obtain ⟨s2, e2, _, _⟩ := DataW.trod_string Try.underlying9 h2
  obtain ⟨dp, dd, e3, hd⟩ := day_of h3
  simp at e0 e1 e2
  subst e0 e1 e2 e3
  exact ⟨⟨s0, s1, s2, dp, dd⟩, rfl, hd⟩

end Go.Proofs.Qxb6627641a
