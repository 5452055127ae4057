/-
  WALKS (4) over the catalogue: zzToEnts (7), zzToProducts (8): fresh copies.
-/
import Derived.Test.Qxb6627641aWalkC
import Derived.WalkSpells
namespace Go.Proofs.Qxb6627641a
open Go.ChangeShapes Go.WideShapes Go.RowKit

theorem Try.info35 : (Try.prog.info? 35).map (fun i => (i.zero, i.size, i.bytes)) = some (some (.agg #[.string ⟨#[]⟩, .string ⟨#[]⟩, .string ⟨#[]⟩, .pointer none]), 4, 56) := by kernel_rfl
theorem Try.info47 : (Try.prog.info? 47).map (fun i => (i.zero, i.size, i.bytes)) = some (some (.agg #[.string ⟨#[]⟩]), 1, 16) := by kernel_rfl

/-- What 'make' lays for n products. -/
def prodZero (n : Nat) : Array Value := madeCells #[.string ⟨#[]⟩, .string ⟨#[]⟩, .string ⟨#[]⟩, .pointer none] (n * 4)
theorem prodZero_size (n : Nat) : (prodZero n).size = n * 4 := size_madeCells _ _

theorem mk_prod (l n : Nat) (hl : l ≤ n) (hn : n ≤ 1048577) (w : World) :
    (Instr.makeSlice 28 (.int .i64 (l : Int)) (.int .i64 (n : Int))).run Try.prog w = .ok (.slice (some ⟨w.heap.size, 0, none⟩) l n) (w.alloc (.cells (prodZero n) 35)) := by
  obtain ⟨i, hi, hz0, hz1, hz2⟩ := info_parts Try.info35
  have h := run_make (P := Try.prog) w 28 35 i _ Try.underlying28 hi hz0 .i64 .i64 l n (by omega) (by omega) (by rw [hz2]; omega) (by omega)
  rw [h, hz1]
  rfl

/-- What 'make' lays for n entitlements. -/
def entZero (n : Nat) : Array Value := madeCells #[.string ⟨#[]⟩] (n * 1)
theorem entZero_size (n : Nat) : (entZero n).size = n * 1 := size_madeCells _ _

theorem mk_ent (n : Nat) (hn : n ≤ 1048577) (w : World) :
    (Instr.makeSlice 26 (.int .i64 (n : Int)) (.int .i64 (n : Int))).run Try.prog w = .ok (.slice (some ⟨w.heap.size, 0, none⟩) n n) (w.alloc (.cells (entZero n) 47)) := by
  obtain ⟨i, hi, hz0, hz1, hz2⟩ := info_parts Try.info47
  have h := run_make (P := Try.prog) w 26 47 i _ Try.underlying26 hi hz0 .i64 .i64 n n (by omega) (by omega) (by rw [hz2]; omega) (by omega)
  rw [h, hz1]
  rfl

def EntsEnd (w : World) (e : Ending) (w' : World) : Prop := (∃ A l c, e = .returned (.slice A l c)) ∧ Below w.heap.size w w'

set_option maxHeartbeats 400000 in
theorem toEnts_any (A : Option Addr) (n c : Nat) (S : Nat → ByteArray) (w : World) (hn : n ≤ 1048576) (hS : StrRow w A n S) : Calls Try.prog 7 #[.slice A n c] w (EntsEnd w) := by
  have heq := fun w => Lib.run_eql_slice_nil (P := Try.prog) w 22 9 A n c 0 0 Try.underlying22
  cases A with
  | none =>
    go_enter Try.func7, Try.ntmps7
    go_wp2
    go_ret
    exact ⟨⟨_, _, _, rfl⟩, Below.refl _ _⟩
  | some a =>
    have hmk := mk_ent n (by omega)
    go_enter Try.func7, Try.ntmps7
    go_wp2
    clear hmk heq
    go_loopw [4] (fun i wx => ∃ k : Nat, k ≤ n ∧ i = .int .i64 k ∧ (∃ f, wx.rowIs w.heap.size 47 (n * 1) f) ∧ Below w.heap.size w wx) (fun i _ => n - (intOf i).toNat)
    case atStart =>
      refine ⟨0, Nat.zero_le _, rfl, ?_, (Below.refl _ _).alloc (Nat.le_refl _) _⟩
      have h := World.rowIs_alloc w (entZero n) 47 (fun i => (entZero n)[i]?.getD undef) (fun i hi => by simp [hi])
      rw [entZero_size] at h
      exact ⟨_, h⟩
    case round =>
      obtain ⟨k, hk, rfl, ⟨f, hrow⟩, hbel⟩ := hrel
      by_cases hlt : k < n
      · rcases hS with hS | ⟨b, off, hA, hc⟩
        · omega
        simp only [Option.some.injEq] at hA
        subst hA
        have e0 := hc k hlt
        have l0 : b < w.heap.size := World.block_lt_of_cell? w _ e0
        have t0 := (hbel.cell (p := ⟨b, off + k, none⟩) l0).trans e0
        have t1 := hrow.cell (i := k) (by omega)
        have f1 := hrow.frozen k
        clear hc e0
        go_wp2
        go_roundw
        case rel => exact ⟨k + 1, by omega, by go_num, ⟨_, hrow.set k _⟩, hbel.setCell (p := ⟨w.heap.size, k, none⟩) (Nat.le_refl _) _⟩
        case measure => simp [intOf]; omega
      · go_wp2
        go_ret
        exact ⟨⟨_, _, _, rfl⟩, hbel⟩

/-- Two products that read alike. -/
def alike (a b : ZP) : Prop := a.st = b.st ∧ a.id = b.id ∧ a.en = b.en ∧ a.dd = b.dd

/-- A row of m products under way in block g: the first k are laid, alike to Z's; their days lie elsewhere. -/
def Build (w : World) (g m k : Nat) (Z : Nat → ZP) : Prop :=
  ∃ (f : Nat → Value) (P : Nat → ZP), w.rowIs g 35 (m * 4) f ∧ ∀ i, i < k → alike (P i) (Z i) ∧ f (i * 4) = .string (P i).st ∧ f (i * 4 + 1) = .string (P i).id ∧ f (i * 4 + 2) = .string (P i).en ∧ f (i * 4 + 3) = .pointer (P i).dp ∧
    DayIs w (P i).dp (P i).dd ∧ ∀ a, (P i).dp = some a → a.block ≠ g

theorem Build.zero (w : World) (m : Nat) (Z : Nat → ZP) : Build (w.alloc (.cells (prodZero m) 35)) w.heap.size m 0 Z := by
  have h := World.rowIs_alloc w (prodZero m) 35 (fun i => (prodZero m)[i]?.getD undef) (fun i hi => by simp [hi])
  rw [prodZero_size] at h
  exact ⟨_, Z, h, fun i hi => absurd hi (Nat.not_lt_zero _)⟩

theorem DayIs.setCell {w : World} {p : Option Addr} {d : Option Int} (h : DayIs w p d) (g o : Nat) (v : Value) (hg : ∀ a, p = some a → a.block ≠ g) : DayIs (w.setCell ⟨g, o, none⟩ v) p d := by
  rcases h with h | ⟨b, o', x, rfl, rfl, hx⟩
  · exact .inl h
  · have := hg _ rfl
    exact .inr ⟨b, o', x, rfl, rfl, by rw [World.cell?_setCell_other _ _ _ _ (fun e => this (by cases e; rfl)), hx]⟩

theorem Build.step {wr w1 : World} {g m k : Nat} {Z : Nat → ZP} (h : Build wr g m k Z) (hb : Below wr.heap.size wr w1) (dp : Option Addr) (hd : DayIs w1 dp (Z k).dd) (hn : ∀ a, dp = some a → wr.heap.size ≤ a.block) :
    Build ((((w1.setCell ⟨g, k * 4, none⟩ (.string (Z k).st)).setCell ⟨g, k * 4 + 1, none⟩ (.string (Z k).id)).setCell ⟨g, k * 4 + 2, none⟩ (.string (Z k).en)).setCell ⟨g, k * 4 + 3, none⟩ (.pointer dp)) g m (k + 1) Z := by
  obtain ⟨f, P, h1, h2⟩ := h
  have lg := h1.lt
  have h1' : w1.rowIs g 35 (m * 4) f := h1.of_block (hb.block g lg)
  refine ⟨_, fun i => if i = k then ⟨(Z k).st, (Z k).id, (Z k).en, dp, (Z k).dd⟩ else P i, (((h1'.set (k * 4) _).set (k * 4 + 1) _).set (k * 4 + 2) _).set (k * 4 + 3) _, fun i hi => ?_⟩
  by_cases e : i = k
  · subst e
    have hng : ∀ a, dp = some a → a.block ≠ g := fun a ha => by have := hn a ha; omega
    simp only [if_true]
    refine ⟨⟨rfl, rfl, rfl, rfl⟩, ?_, ?_, ?_, ?_, (((hd.setCell g _ _ hng).setCell g _ _ hng).setCell g _ _ hng).setCell g _ _ hng, hng⟩
    · rw [if_neg (by omega), if_neg (by omega), if_neg (by omega)]
    · rw [if_neg (by omega), if_neg (by omega)]
    · rw [if_neg (by omega)]
    · trivial
  · obtain ⟨a0, a1, a2, a3, a4, a5, a6⟩ := h2 i (by omega)
    simp only [if_neg e]
    refine ⟨a0, ?_, ?_, ?_, ?_, ((((a5.below hb).setCell g _ _ a6).setCell g _ _ a6).setCell g _ _ a6).setCell g _ _ a6, a6⟩
    · rw [if_neg (by omega), if_neg (by omega), if_neg (by omega), if_neg (by omega)]; exact a1
    · rw [if_neg (by omega), if_neg (by omega), if_neg (by omega), if_neg (by omega)]; exact a2
    · rw [if_neg (by omega), if_neg (by omega), if_neg (by omega), if_neg (by omega)]; exact a3
    · rw [if_neg (by omega), if_neg (by omega), if_neg (by omega), if_neg (by omega)]; exact a4

/-- What the walk wants ahead of a store of product k, in a later world. -/
theorem Build.there {wr w1 : World} {g m k : Nat} {Z : Nat → ZP} (h : Build wr g m k Z) (hb : Below wr.heap.size wr w1) (i : Nat) (hi : i < m) :
    ∃ v0 v1 v2 v3, w1.cell? ⟨g, i * 4, none⟩ = some v0 ∧ w1.cell? ⟨g, i * 4 + 1, none⟩ = some v1 ∧ w1.cell? ⟨g, i * 4 + 2, none⟩ = some v2 ∧ w1.cell? ⟨g, i * 4 + 3, none⟩ = some v3 ∧
      w1.frozen? ⟨g, i * 4, none⟩ = false ∧ w1.frozen? ⟨g, i * 4 + 1, none⟩ = false ∧ w1.frozen? ⟨g, i * 4 + 2, none⟩ = false ∧ w1.frozen? ⟨g, i * 4 + 3, none⟩ = false := by
  obtain ⟨f, P, h1, _⟩ := h
  have h1' : w1.rowIs g 35 (m * 4) f := h1.of_block (hb.block g h1.lt)
  exact ⟨_, _, _, _, h1'.cell (by omega), h1'.cell (by omega), h1'.cell (by omega), h1'.cell (by omega), h1'.frozen _, h1'.frozen _, h1'.frozen _, h1'.frozen _⟩

theorem Build.done {w : World} {g m : Nat} {Z : Nat → ZP} (h : Build w g m m Z) : ∃ P, ZRow w (some ⟨g, 0, none⟩) m P ∧ ∀ i, i < m → alike (P i) (Z i) := by
  obtain ⟨f, P, h1, h2⟩ := h
  refine ⟨P, .inr ⟨g, 0, rfl, fun i hi => ?_⟩, fun i hi => (h2 i hi).1⟩
  obtain ⟨_, a1, a2, a3, a4, a5, _⟩ := h2 i hi
  rw [Nat.zero_add]
  exact ⟨by rw [h1.cell (by omega), a1], by rw [h1.cell (by omega), a2], by rw [h1.cell (by omega), a3], by rw [h1.cell (by omega), a4], a5⟩

def ProdsEnd (n : Nat) (Z : Nat → ZP) (w : World) (e : Ending) (w' : World) : Prop :=
  ∃ A P, e = .returned (.slice A n n) ∧ ZRow w' A n P ∧ (∀ i, i < n → alike (P i) (Z i)) ∧ Below w.heap.size w w'

set_option maxHeartbeats 400000 in
theorem toProducts_any (A : Option Addr) (n c : Nat) (Z : Nat → ZP) (w : World) (hn : n ≤ 1048576) (hnil : A = none → n = 0) (hZ : ZRow w A n Z) : Calls Try.prog 8 #[.slice A n c] w (ProdsEnd n Z w) := by
  have heq := fun w => Lib.run_eql_slice_nil (P := Try.prog) w 23 43 A n c 0 0 Try.underlying23
  cases A with
  | none =>
    have e := hnil rfl
    subst e
    go_enter Try.func8, Try.ntmps8
    go_wp2
    go_ret
    exact ⟨none, Z, rfl, .inl rfl, fun i hi => absurd hi (Nat.not_lt_zero _), Below.refl _ _⟩
  | some a =>
    have hmk := mk_prod n n (Nat.le_refl _) (by omega)
    go_enter Try.func8, Try.ntmps8
    go_wp2
    clear hmk heq hnil
    go_loopw [4] (fun i wx => ∃ k : Nat, k ≤ n ∧ i = .int .i64 k ∧ Build wx w.heap.size n k Z ∧ Below w.heap.size w wx) (fun i _ => n - (intOf i).toNat)
    case atStart => exact ⟨0, Nat.zero_le _, rfl, Build.zero _ _ _, (Below.refl _ _).alloc (Nat.le_refl _) _⟩
    case round =>
      obtain ⟨k, hk, rfl, hbuild, hbel⟩ := hrel
      by_cases hlt : k < n
      · rcases hZ with hZ | ⟨b, off, hA, hc⟩
        · omega
        simp only [Option.some.injEq] at hA
        subst hA
        have hcell := (hc k hlt).below hbel
        obtain ⟨c0, c1, c2, c3, day⟩ := hcell
        have hs := hbel.size
        clear hc
        go_wp2_with fail
        refine (toProduct_any _ _ _ _ (Z k).dd _ day).mono ?_
        rintro e w1 ⟨dp, rfl, hd, hnew, hb1⟩
        obtain ⟨v0, v1, v2, v3, t0, t1, t2, t3, f0, f1, f2, f3⟩ := hbuild.there hb1 k hlt
        have hstep := hbuild.step hb1 dp hd hnew
        have bel1 := hbel.trans (hb1.mono hs)
        clear hbuild hb1 hd hnew c0 c1 c2 c3 day
        go_wp2_with fail
        go_roundw
        case rel => exact ⟨k + 1, by omega, by go_num, hstep, (((bel1.setCell (p := ⟨w.heap.size, k * 4, none⟩) (Nat.le_refl _) _).setCell (p := ⟨w.heap.size, k * 4 + 1, none⟩) (Nat.le_refl _) _).setCell (p := ⟨w.heap.size, k * 4 + 2, none⟩) (Nat.le_refl _) _).setCell (p := ⟨w.heap.size, k * 4 + 3, none⟩) (Nat.le_refl _) _⟩
        case measure => simp [intOf]; omega
      · go_wp2
        go_ret
        have e : k = n := by omega
        subst e
        obtain ⟨P, hP, hPZ⟩ := hbuild.done
        exact ⟨_, P, rfl, hP, hPZ, hbel⟩

end Go.Proofs.Qxb6627641a
