/-
  WALKS (1): the atomics (functions 9, 10, 11), ZZnewMark (6), Reach (7), ZZmarkCount (8), in the run of one goroutine.
-/
import Derived.Test.Qxb6627678aRows
import Derived.WalkKit
namespace Go.Proofs.Qxb6627678a
open Go.ChangeShapes Go.WideShapes Go.RowKit

def StoreEnd (b : Nat) (c : Int) (w : World) (e : Ending) (w' : World) : Prop := e = .returned (.tuple #[]) ∧ w.setCell ⟨b, 0, none⟩ (.int .u64 c) = w'
theorem store_any (b : Nat) (c : Int) (u : Value) (w : World) (hc : w.cell? ⟨b, 0, none⟩ = some u) (hz : w.frozen? ⟨b, 0, none⟩ = false) :
    Calls Try.prog 9 #[.pointer (some ⟨b, 0, none⟩), .int .u64 c] w (StoreEnd b c w) := by
  have hst := run_call_store (P := Try.prog) Try.func12 (by kernel_rfl) (by kernel_rfl) (by kernel_rfl) (by kernel_rfl) (k := .u64) (y := c) hc hz
  go_enter Try.func9, Try.ntmps9
  go_wp2
  go_end0
  exact ⟨rfl, rfl⟩

def LoadEnd (x : Int) (w : World) (e : Ending) (w' : World) : Prop := e = .returned (.int .u64 x) ∧ w = w'
theorem load_any (b : Nat) (x : Int) (w : World) (hc : w.cell? ⟨b, 0, none⟩ = some (.int .u64 x)) : Calls Try.prog 10 #[.pointer (some ⟨b, 0, none⟩)] w (LoadEnd x w) := by
  have hst := run_call_load (P := Try.prog) Try.func13 (by kernel_rfl) (by kernel_rfl) (by kernel_rfl) .u64 (by kernel_rfl) hc
  go_enter Try.func10, Try.ntmps10
  go_wp2
  go_ret
  exact ⟨rfl, rfl⟩

def CasEnd (b : Nat) (y : Int) (w : World) (e : Ending) (w' : World) : Prop := e = .returned (.bool true) ∧ w.setCell ⟨b, 0, none⟩ (.int .u64 y) = w'
theorem cas_any (b : Nat) (x y : Int) (w : World) (hc : w.cell? ⟨b, 0, none⟩ = some (.int .u64 x)) (hz : w.frozen? ⟨b, 0, none⟩ = false) :
    Calls Try.prog 11 #[.pointer (some ⟨b, 0, none⟩), .int .u64 x, .int .u64 y] w (CasEnd b y w) := by
  have hst := run_call_cas_hit (P := Try.prog) Try.func14 (by kernel_rfl) (by kernel_rfl) (by kernel_rfl) .u64 (by kernel_rfl) (y := y) hc hz
  go_enter Try.func11, Try.ntmps11
  go_wp2
  go_ret
  exact ⟨rfl, rfl⟩

/-- A Mark that holds x lies at block b; it may be written. -/
structure Mark (w : World) (b : Nat) (x : Int) : Prop where
  cell : w.cell? ⟨b, 0, none⟩ = some (.int .u64 x)
  free : w.frozen? ⟨b, 0, none⟩ = false

def NewEnd (c : Int) (w : World) (e : Ending) (w' : World) : Prop := e = .returned (.pointer (some ⟨w.heap.size, 0, none⟩)) ∧ Mark w' w.heap.size c ∧ Below w.heap.size w w'

theorem new_any (c : Int) (w : World) : Calls Try.prog 6 #[.int .u64 c] w (NewEnd c w) := by
  go_enter Try.func6, Try.ntmps6
  go_wp2_with fail
  refine (store_any _ c (.int .u64 0) _ (by simp) (by simp [go_sem])).mono ?_
  rintro e w' ⟨rfl, rfl⟩
  go_wp2_with fail
  go_ret
  exact ⟨rfl, ⟨by simp [go_sem], by simp [go_sem]⟩, (Below.refl _ _).alloc (Nat.le_refl _) _⟩

theorem count_any (b : Nat) (x : Int) (w : World) (h : Mark w b x) : Calls Try.prog 8 #[.pointer (some ⟨b, 0, none⟩)] w (LoadEnd x w) := by
  go_enter Try.func8, Try.ntmps8
  go_wp2_with fail
  refine (load_any b x _ h.cell).mono ?_
  rintro e w' ⟨rfl, rfl⟩
  go_wp2_with fail
  go_ret
  exact ⟨rfl, rfl⟩

/-- Reach: answers what the Mark held; it then holds the greater of the two. -/
def ReachEnd (b : Nat) (x n : Int) (w : World) (e : Ending) (w' : World) : Prop := e = .returned (.int .u64 x) ∧ Mark w' b (if x < n then n else x) ∧ (∀ B, B ≤ b → Below B w w')

theorem reach_any (b : Nat) (x n : Int) (w : World) (h : Mark w b x) : Calls Try.prog 7 #[.pointer (some ⟨b, 0, none⟩), .int .u64 n] w (ReachEnd b x n w) := by
  go_enter Try.func7, Try.ntmps7
  go_wp2_with fail
  go_loop [5] (fun _ => True) (fun _ => 0)
  case atStart => trivial
  case round =>
    by_cases hlt : x < n
    · go_wp2_with fail
      refine (load_any b x _ h.cell).mono ?_
      rintro e w' ⟨rfl, rfl⟩
      go_wp2_with fail
      refine (cas_any b x n _ h.cell h.free).mono ?_
      rintro e w' ⟨rfl, rfl⟩
      go_wp2_with fail
      go_ret
      refine ⟨rfl, ?_, fun B hB => (Below.refl _ _).setCell (p := ⟨b, 0, none⟩) hB _⟩
      rw [if_pos hlt]
      exact ⟨World.cell?_setCell_same _ _ _ h.cell, by rw [World.frozen?_setCell]; exact h.free⟩
    · go_wp2_with fail
      refine (load_any b x _ h.cell).mono ?_
      rintro e w' ⟨rfl, rfl⟩
      go_wp2_with fail
      go_ret
      refine ⟨rfl, ?_, fun B hB => Below.refl _ _⟩
      rw [if_neg (by omega)]
      exact h

def LawEnd (w : World) (e : Ending) (w' : World) : Prop := e = .returned (.bool true) ∧ Below w.heap.size w w'
theorem lawEnd {w w' : World} {b : Bool} (h : b = true) (hb : Below w.heap.size w w') : LawEnd w (.returned (.bool b)) w' := ⟨by rw [h], hb⟩

theorem eqle {c n : Int} (h : n ≤ c) : ((c == n) == decide (c ≤ n)) = true := by
  by_cases e : c = n
  · subst e; simp
  · have h1 : ¬ c ≤ n := by omega
    simp [e, h1]

set_option maxHeartbeats 400000 in
theorem twice_any (c n : Int) (w : World) : Calls Try.prog 4 #[.int .u64 c, .int .u64 n] w (LawEnd w) := by
  by_cases hlt : c < n
  · go_enter Try.func4, Try.ntmps4
    go_wp2_with fail
    refine (new_any c _).mono ?_
    rintro e w1 ⟨rfl, m1, b1⟩
    go_wp2_with fail
    refine (reach_any _ c n _ m1).mono ?_
    rintro e w2 ⟨rfl, m2, b2⟩
    rw [if_pos hlt] at m2
    have b2 := b1.trans (b2 w.heap.size (Nat.le_refl _))
    go_wp2_with fail
    refine (count_any _ n _ m2).mono ?_
    rintro e w3 ⟨rfl, rfl⟩
    go_wp2_with fail
    refine (reach_any _ n n _ m2).mono ?_
    rintro e w3 ⟨rfl, m3, b3⟩
    rw [if_neg (by omega)] at m3
    have b3 := b2.trans (b3 w.heap.size (Nat.le_refl _))
    go_wp2_with fail
    refine (count_any _ n _ m3).mono ?_
    rintro e w4 ⟨rfl, rfl⟩
    go_wp2_with fail
    go_ret
    exact lawEnd (decide_eq_true (by omega)) b3
  · go_enter Try.func4, Try.ntmps4
    go_wp2_with fail
    refine (new_any c _).mono ?_
    rintro e w1 ⟨rfl, m1, b1⟩
    go_wp2_with fail
    refine (reach_any _ c n _ m1).mono ?_
    rintro e w2 ⟨rfl, m2, b2⟩
    rw [if_neg (by omega)] at m2
    have b2 := b1.trans (b2 w.heap.size (Nat.le_refl _))
    go_wp2_with fail
    refine (count_any _ c _ m2).mono ?_
    rintro e w3 ⟨rfl, rfl⟩
    go_wp2_with fail
    refine (reach_any _ c n _ m2).mono ?_
    rintro e w3 ⟨rfl, m3, b3⟩
    rw [if_neg (by omega)] at m3
    have b3 := b2.trans (b3 w.heap.size (Nat.le_refl _))
    go_wp2_with fail
    refine (count_any _ c _ m3).mono ?_
    rintro e w4 ⟨rfl, rfl⟩
    go_wp2_with fail
    go_ret
    exact lawEnd (eqle (by omega)) b3

/-- A slice of counts. -/
def NumRow (w : World) (A : Option Addr) (len : Nat) (N : Nat → Int) : Prop :=
  len = 0 ∨ ∃ b off, A = some ⟨b, off, none⟩ ∧ ∀ i, i < len → w.cell? ⟨b, off + i, none⟩ = some (.int .u64 (N i))

def SomeBool (w : World) (e : Ending) (w' : World) : Prop := (∃ b, e = .returned (.bool b)) ∧ w = w'

theorem bytes_any (c : Int) (A : Option Addr) (n cap : Nat) (w : World) : Calls Try.prog 5 #[.int .u64 c, .slice A n cap] w (SomeBool w) := by
  go_enter Try.func5, Try.ntmps5
  go_wp2
  all_goals
    go_ret
    exact ⟨⟨_, rfl⟩, rfl⟩

set_option maxHeartbeats 1000000 in
theorem script_any (c : Int) (A : Option Addr) (n cap : Nat) (N : Nat → Int) (w : World) (hn : n ≤ maxLen) (hN : NumRow w A n N) : Calls Try.prog 3 #[.int .u64 c, .slice A n cap] w (LawEnd w) := by
  unfold maxLen at hn
  go_enter Try.func3, Try.ntmps3
  go_wp2_with fail
  refine (bytes_any _ _ _ _ _).mono ?_
  rintro e w' ⟨⟨b, rfl⟩, rfl⟩
  cases b
  · go_wp2_with fail
    go_ret; exact lawEnd rfl (Below.refl _ _)
  go_wp2_with fail
  · go_ret; exact lawEnd rfl (Below.refl _ _)
  refine (new_any c _).mono ?_
  rintro e w1 ⟨rfl, m1, b1⟩
  go_wp2_with fail
  go_loopw [6, 7] (fun t i wx => ∃ k : Nat, k ≤ n ∧ i = .int .i64 k ∧ ∃ x : Int, t = .int .u64 x ∧ Mark wx w.heap.size x ∧ Below w.heap.size w wx) (fun _ i _ => n - (intOf i).toNat)
  case atStart => exact ⟨0, Nat.zero_le _, rfl, c, rfl, m1, b1⟩
  case round =>
    obtain ⟨k, hk, rfl, x, rfl, hm, hbel⟩ := hrel
    clear m1 b1
    by_cases hlt : k < n
    · rcases hN with hN | ⟨b, off, rfl, hc⟩
      · omega
      have e0 := hc k hlt
      have l0 : b < w.heap.size := World.block_lt_of_cell? w _ e0
      have t0 := (hbel.cell (p := ⟨b, off + k, none⟩) l0).trans e0
      clear hc
      go_wp2_with fail
      refine (reach_any _ x _ _ hm).mono ?_
      rintro e w2 ⟨rfl, m2, b2⟩
      have bel2 := hbel.trans (b2 w.heap.size (Nat.le_refl _))
      have t2 := (bel2.cell (p := ⟨b, off + k, none⟩) l0).trans e0
      clear e0 t0 hm hbel b2
      by_cases hx : x < N k
      · rw [if_pos hx] at m2
        go_wp2_with fail
        refine (count_any _ _ _ m2).mono ?_
        rintro e w3 ⟨rfl, rfl⟩
        go_wp2_with fail
        go_roundw
        case rel => exact ⟨k + 1, by omega, by go_num, N k, rfl, m2, bel2⟩
        case measure => simp [intOf]; omega
      · rw [if_neg hx] at m2
        go_wp2_with fail
        refine (count_any _ _ _ m2).mono ?_
        rintro e w3 ⟨rfl, rfl⟩
        go_wp2_with fail
        go_roundw
        case rel => exact ⟨k + 1, by omega, by go_num, x, rfl, m2, bel2⟩
        case measure => simp [intOf]; omega
    · go_wp2_with fail
      go_ret
      exact lawEnd rfl hbel

end Go.Proofs.Qxb6627678a
