/-
  THE PLAIN LAWS on 'find': alike lists, a cut, an insertion. And small facts on rows: cuts, boxes.
-/
import Derived.Test.Qxb6627641aWalkD
namespace Go.Proofs.Qxb6627641a
open Go.ChangeShapes Go.WideShapes Go.RowKit

theorem find_congr {P Z : Nat → ZP} (s d : ByteArray) : ∀ n, (∀ i, i < n → alike (P i) (Z i)) → find P s d n = find Z s d n
  | 0, _ => rfl
  | n + 1, h => by
    obtain ⟨e1, e2, _, _⟩ := h n (Nat.lt_succ_self _)
    rw [find, find, find_congr s d n (fun i hi => h i (by omega)), e1, e2]

theorem find_split_aux (P : Nat → ZP) (s d : ByteArray) (k : Nat) : ∀ m, find P s d (k + m) = (match find P s d k with | some i => some i | none => (find (fun i => P (k + i)) s d m).map (k + ·))
  | 0 => by
    show find P s d k = _
    cases find P s d k <;> rfl
  | m + 1 => by
    show find P s d ((k + m) + 1) = _
    rw [find, find_split_aux P s d k m]
    cases find P s d k with
    | some i => rfl
    | none =>
      show (match (find (fun i => P (k + i)) s d m).map (k + ·) with | some i => some i | none => _) = (find (fun i => P (k + i)) s d (m + 1)).map (k + ·)
      rw [find]
      cases find (fun i => P (k + i)) s d m with
      | some i => rfl
      | none =>
        show (if hits (P (k + m)).st (P (k + m)).id s d = true then some (k + m) else none) = Option.map (k + ·) (if hits (P (k + m)).st (P (k + m)).id s d = true then some m else none)
        split <;> rfl

theorem find_split (P : Nat → ZP) (s d : ByteArray) (k n : Nat) (h : k ≤ n) : find P s d n = (match find P s d k with | some i => some i | none => (find (fun i => P (k + i)) s d (n - k)).map (k + ·)) := by
  have := find_split_aux P s d k (n - k)
  rwa [show k + (n - k) = n by omega] at this

theorem ZRow.take {w : World} {A : Option Addr} {n j : Nat} {Z : Nat → ZP} (h : ZRow w A n Z) (hj : j ≤ n) : ZRow w A j Z := by
  rcases h with h | ⟨b, off, rfl, hc⟩
  · exact .inl (by omega)
  · exact .inr ⟨b, off, rfl, fun i hi => hc i (by omega)⟩

/-- Where 'x[j:]' begins. -/
def dropAt (A : Option Addr) (c j : Nat) : Option Addr := if c = j then A else A.map (·.add (j * 4))

theorem dropAt_some (b off c j n : Nat) (hjn : j < n) (hnc : n ≤ c) : dropAt (some ⟨b, off, none⟩) c j = some ⟨b, off + j * 4, none⟩ := by
  rw [dropAt, if_neg (by omega)]
  simp only [Option.map_some, Addr.add]
  split <;> simp_all

theorem ZRow.drop {w : World} {A : Option Addr} {n c j : Nat} {Z : Nat → ZP} (h : ZRow w A n Z) (hj : j ≤ n) (hc : n ≤ c) : ZRow w (dropAt A c j) (n - j) (fun i => Z (j + i)) := by
  by_cases e : n - j = 0
  · exact .inl e
  · rcases h with h | ⟨b, off, rfl, hcell⟩
    · omega
    · exact .inr ⟨b, off + j * 4, dropAt_some b off c j n (by omega) hc, fun i hi => by
        have := hcell (j + i) (by omega)
        rwa [show off + (j + i) * 4 = off + j * 4 + i * 4 by omega] at this⟩

theorem Try.size35 : (Try.prog.info? 35).map (·.size) = some 4 := by kernel_rfl
theorem size_of35 (w : World) : (sizeOf 35).run Try.prog w = .ok 4 w := by
  obtain ⟨i, hi, hs⟩ := Option.map_eq_some_iff.1 Try.size35
  simp [sizeOf, typeInfo, hi, hs]
theorem cut_lo (A : Option Addr) (n c j : Nat) (h : j ≤ c) (w : World) : (Instr.slice 28 (.slice A n c) none (some (.int .i64 (j : Int))) none).run Try.prog w = .ok (.slice A j c) w := by
  have ha : A.map (·.add 0) = A := by cases A <;> simp [Addr.add]
  rw [run_slice_h (P := Try.prog) w 28 A n c Try.underlying28 .i64 j (by omega) (by omega)]
  show ((sizeOf 35).run Try.prog w).andThen _ = _
  rw [size_of35]
  simp [Result.andThen, sliced, ha]
theorem cut_hi (A : Option Addr) (n c j : Nat) (h : j ≤ n) (w : World) : (Instr.slice 28 (.slice A n c) (some (.int .i64 (j : Int))) none none).run Try.prog w = .ok (.slice (dropAt A c j) (n - j) (c - j)) w := by
  rw [run_slice_l (P := Try.prog) w 28 A n c Try.underlying28 .i64 j (by omega) (by omega)]
  show ((sizeOf 35).run Try.prog w).andThen _ = _
  rw [size_of35]
  simp [Result.andThen, sliced, dropAt]

/-- A product in a box of its own. -/
structure Box (w : World) (B : Nat) (z : ZP) : Prop where
  c0 : w.cell? ⟨B, 0, none⟩ = some (.string z.st)
  c1 : w.cell? ⟨B, 1, none⟩ = some (.string z.id)
  c2 : w.cell? ⟨B, 2, none⟩ = some (.string z.en)
  c3 : w.cell? ⟨B, 3, none⟩ = some (.pointer z.dp)

theorem Box.below {w w' : World} {B : Nat} {z : ZP} (h : Box w B z) (hb : Below w.heap.size w w') : Box w' B z := by
  have lb : B < w.heap.size := World.block_lt_of_cell? w _ h.c0
  exact ⟨by rw [hb.cell (p := ⟨B, 0, none⟩) lb, h.c0], by rw [hb.cell (p := ⟨B, 1, none⟩) lb, h.c1], by rw [hb.cell (p := ⟨B, 2, none⟩) lb, h.c2], by rw [hb.cell (p := ⟨B, 3, none⟩) lb, h.c3]⟩

theorem Box.made (w : World) (z : ZP) (t : TypeId) : Box (w.alloc (.cells #[.string z.st, .string z.id, .string z.en, .pointer z.dp] t)) w.heap.size z := ⟨by simp, by simp, by simp, by simp⟩

def SomeEnd (z : ZP) (w : World) (e : Ending) (w' : World) : Prop := e = .returned (.tuple #[.agg #[.string z.st, .string z.id, .string z.en, .pointer z.dp], .bool true]) ∧ Below w.heap.size w w'
def NoneEnd (w : World) (e : Ending) (w' : World) : Prop := e = .returned (.tuple #[.agg #[.string ⟨#[]⟩, .string ⟨#[]⟩, .string ⟨#[]⟩, .pointer none], .bool false]) ∧ Below w.heap.size w w'

theorem product_some (E : Option Addr) (le ce : Nat) (A : Option Addr) (n c : Nat) (Z : Nat → ZP) (s d : ByteArray) (w : World) (hn : n ≤ 1048577) (hZ : ZRow w A n Z) (i : Nat) (hr : find Z s d n = some i) :
    Calls Try.prog 9 #[.agg #[.slice E le ce, .slice A n c], .string s, .string d] w (SomeEnd (Z i) w) :=
  product_any E le ce A n c Z s d w (by unfold maxLen; omega) hZ _ hr

theorem product_none (E : Option Addr) (le ce : Nat) (A : Option Addr) (n c : Nat) (Z : Nat → ZP) (s d : ByteArray) (w : World) (hn : n ≤ 1048577) (hZ : ZRow w A n Z) (hr : find Z s d n = none) :
    Calls Try.prog 9 #[.agg #[.slice E le ce, .slice A n c], .string s, .string d] w (NoneEnd w) :=
  product_any E le ce A n c Z s d w (by unfold maxLen; omega) hZ _ hr

theorem product_some_at (z : ZP) (E : Option Addr) (le ce : Nat) (A : Option Addr) (n c : Nat) (Z : Nat → ZP) (s d : ByteArray) (w : World) (hn : n ≤ 1048577) (hZ : ZRow w A n Z) (i : Nat) (hr : find Z s d n = some i) (hz : Z i = z) :
    Calls Try.prog 9 #[.agg #[.slice E le ce, .slice A n c], .string s, .string d] w (SomeEnd z w) := by
  subst hz
  exact product_some E le ce A n c Z s d w hn hZ i hr

theorem Box.alloc {w : World} {B : Nat} {z : ZP} (h : Box w B z) (o : Obj) : Box (w.alloc o) B z := h.below ((Below.refl _ _).alloc (Nat.le_refl _) _)
theorem DayIs.drew {w : World} {p : Option Addr} {d : Option Int} (h : DayIs w p d) : DayIs w.drew p d := h.below (Below.refl _ _).drew
theorem ZRow.day {w : World} {A : Option Addr} {n : Nat} {Z : Nat → ZP} (h : ZRow w A n Z) (i : Nat) (hi : i < n) : DayIs w (Z i).dp (Z i).dd := by
  rcases h with h | ⟨b, off, rfl, hc⟩
  · omega
  · exact (hc i hi).day

def LawEnd (w : World) (e : Ending) (w' : World) : Prop := e = .returned (.bool true) ∧ Below w.heap.size w w'
theorem lawEnd {w w' : World} {b : Bool} (h : b = true) (hb : Below w.heap.size w w') : LawEnd w (.returned (.bool b)) w' := ⟨by rw [h], hb⟩

end Go.Proofs.Qxb6627641a
