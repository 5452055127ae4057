/-
  WALKS (3): zzAccess (function 7): a fresh access list.
-/
import Derived.Test.Qxb6627602aWalkA
import Derived.Deep.OwnRows
namespace Go.Proofs.Qxb6627602a
open Go.ChangeShapes Go.WideShapes Go.RowKit

theorem Try.info32 : (Try.prog.info? 32).map (fun i => (i.zero, i.size, i.bytes)) = some (some (.agg #[.string ByteArray.empty, .bool false]), 2, 24) := by kernel_rfl

/-- What 'make' lays for n entries. -/
def accZero (n : Nat) : Array Value := madeCells #[.string ByteArray.empty, .bool false] (n * 2)
theorem accZero_size (n : Nat) : (accZero n).size = n * 2 := size_madeCells _ _

theorem mk_acc (n : Nat) (hn : n ≤ 1048577) (w : World) :
    (Instr.makeSlice 27 (.int .i64 (n : Int)) (.int .i64 (n : Int))).run Try.prog w = .ok (.slice (some ⟨w.heap.size, 0, none⟩) n n) (w.alloc (.cells (accZero n) 32)) := by
  obtain ⟨i, hi, hz0, hz1, hz2⟩ := info_parts Try.info32
  have h := run_make (P := Try.prog) w 27 32 i _ Try.underlying27 hi hz0 .i64 .i64 n n (by omega) (Int.le_refl _) (by rw [hz2]; omega) (by omega)
  rw [h, hz1]
  rfl

/-- Block g is a row of m entries, of which the first k are those that S and B say. -/
def RowTo (w : World) (g m k : Nat) (S : Nat → ByteArray) (B : Nat → Bool) : Prop :=
  ∃ f, w.rowIs g 32 (m * 2) f ∧ ∀ i, i < k → f (i * 2) = .string (S i) ∧ f (i * 2 + 1) = .bool (B i)

theorem RowTo.zero (w : World) (m : Nat) (S : Nat → ByteArray) (B : Nat → Bool) : RowTo (w.alloc (.cells (accZero m) 32)) w.heap.size m 0 S B := by
  have h := World.rowIs_alloc w (accZero m) 32 (fun i => (accZero m)[i]?.getD undef) (fun i hi => by simp [hi])
  rw [accZero_size] at h
  exact ⟨_, h, fun i hi => absurd hi (Nat.not_lt_zero _)⟩

theorem RowTo.alloc {w : World} {g m k : Nat} {S : Nat → ByteArray} {B : Nat → Bool} (h : RowTo w g m k S B) (o : Obj) : RowTo (w.alloc o) g m k S B := by
  obtain ⟨f, h1, h2⟩ := h
  exact ⟨f, h1.alloc o, h2⟩

theorem RowTo.drew {w : World} {g m k : Nat} {S : Nat → ByteArray} {B : Nat → Bool} (h : RowTo w g m k S B) : RowTo w.drew g m k S B := by
  obtain ⟨f, h1, h2⟩ := h
  exact ⟨f, h1.drew, h2⟩

theorem RowTo.put {w : World} {g m k : Nat} {S : Nat → ByteArray} {B : Nat → Bool} (h : RowTo w g m k S B) (s : ByteArray) (b : Bool) (hs : s = S k) (hb : b = B k) :
    RowTo ((w.setCell ⟨g, k * 2, none⟩ (.string s)).setCell ⟨g, k * 2 + 1, none⟩ (.bool b)) g m (k + 1) S B := by
  obtain ⟨f, h1, h2⟩ := h
  subst hs hb
  refine ⟨_, (h1.set (k * 2) _).set (k * 2 + 1) _, fun i hi => ?_⟩
  by_cases e : i = k
  · subst e
    constructor
    · show (if i * 2 = i * 2 + 1 then _ else if i * 2 = i * 2 then _ else _) = _
      rw [if_neg (by omega), if_pos rfl]
    · show (if i * 2 + 1 = i * 2 + 1 then _ else _) = _
      rw [if_pos rfl]
  · obtain ⟨g0, g1⟩ := h2 i (by omega)
    constructor
    · show (if i * 2 = k * 2 + 1 then _ else if i * 2 = k * 2 then _ else _) = _
      rw [if_neg (by omega), if_neg (by omega)]; exact g0
    · show (if i * 2 + 1 = k * 2 + 1 then _ else if i * 2 + 1 = k * 2 then _ else _) = _
      rw [if_neg (by omega), if_neg (by omega)]; exact g1

theorem RowTo.of_below {W w' : World} {g m k B0 : Nat} {S : Nat → ByteArray} {B : Nat → Bool} (h : RowTo W g m k S B) (hb : Below B0 W w') (hg : g < B0) : RowTo w' g m k S B := by
  obtain ⟨f, h1, h2⟩ := h
  exact ⟨f, h1.of_block (hb.block g hg), h2⟩

theorem RowTo.lt {w : World} {g m k : Nat} {S : Nat → ByteArray} {B : Nat → Bool} (h : RowTo w g m k S B) : g < w.heap.size := by
  obtain ⟨f, h1, _⟩ := h
  exact h1.lt

theorem RowTo.cells {w : World} {g m : Nat} {S : Nat → ByteArray} {B : Nat → Bool} (h : RowTo w g m m S B) :
    (∀ i, i < m → w.cell? ⟨g, i * 2, none⟩ = some (.string (S i))) ∧ (∀ i, i < m → w.cell? ⟨g, i * 2 + 1, none⟩ = some (.bool (B i))) := by
  obtain ⟨f, h1, h2⟩ := h
  exact ⟨fun i hi => by rw [h1.cell (by omega), (h2 i hi).1], fun i hi => by rw [h1.cell (by omega), (h2 i hi).2]⟩

/-- What the walk wants ahead of a store of entry k. -/
theorem RowTo.there {w : World} {g m k : Nat} {S : Nat → ByteArray} {B : Nat → Bool} (h : RowTo w g m k S B) (i : Nat) (hi : i < m) :
    ∃ v0 v1, w.cell? ⟨g, i * 2, none⟩ = some v0 ∧ w.cell? ⟨g, i * 2 + 1, none⟩ = some v1 ∧ w.frozen? ⟨g, i * 2, none⟩ = false ∧ w.frozen? ⟨g, i * 2 + 1, none⟩ = false := by
  obtain ⟨f, h1, _⟩ := h
  exact ⟨_, _, h1.cell (by omega), h1.cell (by omega), h1.frozen _, h1.frozen _⟩

def AccEnd (n : Nat) (S : Nat → ByteArray) (B : Nat → Bool) (w : World) (e : Ending) (w' : World) : Prop :=
  ∃ g, e = .returned (.slice (some ⟨g, 0, none⟩) n n) ∧ RowTo w' g n n S B ∧ Below w.heap.size w w'

set_option maxHeartbeats 400000 in
theorem access_any (A0 A1 : Option Addr) (n p0 p1 : Nat) (S : Nat → ByteArray) (B : Nat → Bool) (w : World) (hn : n ≤ 1048576) (h0 : StrRow w A0 n S) (h1 : BoolRow w A1 n B) :
    Calls Try.prog 7 #[.slice A0 n p0, .slice A1 n p1] w (AccEnd n S B w) := by
  have hmk := mk_acc n (by omega)
  go_enter Try.func7, Try.ntmps7
  go_wp2
  clear hmk
  go_loopw [6] (fun i wx => ∃ k : Nat, k ≤ n ∧ i = .int .i64 k ∧ RowTo wx w.heap.size n k S B ∧ Below w.heap.size w wx) (fun i _ => n - (intOf i).toNat)
  case atStart => exact ⟨0, Nat.zero_le _, rfl, RowTo.zero _ _ _ _, (Below.refl _ _).alloc (Nat.le_refl _) _⟩
  case round =>
    obtain ⟨k, hk, rfl, hrow, hbel⟩ := hrel
    by_cases hlt : k < n
    · rcases h0 with h0 | ⟨b0, off0, rfl, e0⟩
      · omega
      rcases h1 with h1 | ⟨b1, off1, rfl, e1⟩
      · omega
      have e0 := e0 k hlt
      have e1 := e1 k hlt
      have l0 : b0 < w.heap.size := World.block_lt_of_cell? w _ e0
      have l1 : b1 < w.heap.size := World.block_lt_of_cell? w _ e1
      have c0 : wr.cell? ⟨b0, off0 + k, none⟩ = some (.string (S k)) := (hbel.cell (p := ⟨b0, off0 + k, none⟩) l0).trans e0
      have c1 : wr.cell? ⟨b1, off1 + k, none⟩ = some (.bool (B k)) := (hbel.cell (p := ⟨b1, off1 + k, none⟩) l1).trans e1
      obtain ⟨v0, v1, t0, t1, f0, f1⟩ := hrow.there k hlt
      clear e0 e1
      have hs := hbel.size
      go_wp2
      go_region
      all_goals
        go_wp2
        go_roundw
        case rel => exact ⟨k + 1, by omega, by go_num, (hrow.put _ _ rfl rfl).drew, ((hbel.setCell (p := ⟨w.heap.size, k * 2, none⟩) (Nat.le_refl _) _).setCell (p := ⟨w.heap.size, k * 2 + 1, none⟩) (Nat.le_refl _) _).drew⟩
        case measure => simp [intOf]; omega
    · go_wp2
      go_ret
      have e : k = n := by omega
      subst e
      exact ⟨_, rfl, hrow, hbel⟩

end Go.Proofs.Qxb6627602a
