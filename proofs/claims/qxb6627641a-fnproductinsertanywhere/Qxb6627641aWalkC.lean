/-
  WALKS (3) over the catalogue: the bounds on lengths (functions 5, 6, 14): some bool; where it is true both slices are short.
-/
import Derived.Test.Qxb6627641aWalkB
namespace Go.Proofs.Qxb6627641a
open Go.ChangeShapes Go.WideShapes Go.RowKit

/-- What a walk is told of a slice of strings. -/
def StrRow (w : World) (A : Option Addr) (len : Nat) (S : Nat → ByteArray) : Prop :=
  len = 0 ∨ ∃ b off, A = some ⟨b, off, none⟩ ∧ ∀ i, i < len → w.cell? ⟨b, off + i, none⟩ = some (.string (S i))

theorem StrRow.below {w w' : World} {A : Option Addr} {n : Nat} {S : Nat → ByteArray} (h : StrRow w A n S) (hb : Below w.heap.size w w') : StrRow w' A n S := by
  rcases h with h | ⟨b, off, rfl, hc⟩
  · exact .inl h
  · exact .inr ⟨b, off, rfl, fun i hi => by
      rw [hb.cell (p := ⟨b, off + i, none⟩) (World.block_lt_of_cell? w _ (hc i hi)), hc i hi]⟩

def BndEnd (l0 l1 : Nat) (w : World) (e : Ending) (w' : World) : Prop := (∃ b, e = .returned (.bool b) ∧ (b = true → l0 ≤ 1048576 ∧ l1 ≤ 1048576)) ∧ Below w.heap.size w w'
theorem bndNo {l0 l1 : Nat} {w w' : World} (hb : Below w.heap.size w w') : BndEnd l0 l1 w (.returned (.bool false)) w' := ⟨⟨false, rfl, fun h => by cases h⟩, hb⟩
theorem bndYes {l0 l1 : Nat} {w w' : World} (h0 : (l0 : Int) ≤ 1048576) (h1 : (l1 : Int) ≤ 1048576) (hb : Below w.heap.size w w') : BndEnd l0 l1 w (.returned (.bool true)) w' := ⟨⟨true, rfl, fun _ => ⟨by omega, by omega⟩⟩, hb⟩

set_option maxRecDepth 100000 in
set_option maxHeartbeats 1000000 in
theorem bytesJ_any (A0 A1 : Option Addr) (l0 c0 l1 c1 : Nat) (S : Nat → ByteArray) (Z : Nat → ZP) (i : Int) (a b : ByteArray) (w : World)
    (hl0 : l0 ≤ maxLen) (hl1 : l1 ≤ maxLen) (h0 : StrRow w A0 l0 S) (h1 : ZRow w A1 l1 Z) :
    Calls Try.prog 5 #[.slice A0 l0 c0, .slice A1 l1 c1, .int .i64 i, .string a, .string b] w (BndEnd l0 l1 w) := by
  unfold maxLen at hl0 hl1
  go_enter Try.func5, Try.ntmps5
  go_wp2
  · go_ret; exact bndNo (Below.refl _ _)
  have hb0 : (l0 : Int) ≤ 1048576 := by assumption
  go_loop [11, 12] (fun t i => ∃ k : Nat, k ≤ l0 ∧ i = .int .i64 k ∧ ∃ z : Int, t = .int .i64 z ∧ 0 ≤ z ∧ z ≤ 1048576) (fun _ i => l0 - (intOf i).toNat)
  case atStart => exact ⟨0, Nat.zero_le _, rfl, _, rfl, by omega, by omega⟩
  case round =>
    obtain ⟨k, hk, rfl, z, rfl, hz0, hz1⟩ := hrel
    by_cases hlt : k < l0
    · rcases h0 with h0 | ⟨b0, off0, rfl, hc⟩
      · omega
      have hck := (hc k hlt)
      clear hc
      go_wp2
      · go_ret; exact bndNo (Below.refl _ _)
      · go_ret; exact bndNo (Below.refl _ _)
      · go_round
        case rel => exact ⟨k + 1, by omega, by go_num, _, rfl, by omega, by omega⟩
        case measure => simp [intOf]; omega
    · clear h0
      go_wp2
      · go_ret; exact bndNo (Below.refl _ _)
      · go_ret; exact bndNo (Below.refl _ _)
      have hb1 : (l1 : Int) ≤ 1048576 := by assumption
      go_loop [11, 13] (fun t i => ∃ k : Nat, k ≤ l1 ∧ i = .int .i64 k ∧ ∃ z : Int, t = .int .i64 z ∧ 0 ≤ z ∧ z ≤ 1048576) (fun _ i => l1 - (intOf i).toNat)
      case atStart => exact ⟨0, Nat.zero_le _, rfl, _, rfl, by omega, by omega⟩
      case round =>
        obtain ⟨k2, hk2, rfl, z2, rfl, hz20, hz21⟩ := hrel
        by_cases hlt2 : k2 < l1
        · rcases h1 with h1 | ⟨b1, off1, rfl, hc⟩
          · omega
          obtain ⟨d0, d1, d2, d3, day⟩ := hc k2 hlt2
          have t0 := d0
          have t1 := d1
          have t2 := d2
          clear hc d0 d1 d2 d3 day
          go_wp2
          · go_ret; exact bndNo (Below.refl _ _)
          · go_ret; exact bndNo (Below.refl _ _)
          · go_ret; exact bndNo (Below.refl _ _)
          · go_ret; exact bndNo (Below.refl _ _)
          · go_ret; exact bndNo (Below.refl _ _)
          · go_ret; exact bndNo (Below.refl _ _)
          · go_round
            case rel => exact ⟨k2 + 1, by omega, by go_num, _, rfl, by omega, by omega⟩
            case measure => simp [intOf]; omega
        · clear h1
          go_wp2
          all_goals go_ret
          all_goals first | exact bndNo (Below.refl _ _) | exact bndYes hb0 hb1 (Below.refl _ _)

set_option maxRecDepth 100000 in
set_option maxHeartbeats 1000000 in
theorem bytesI_any (A0 A1 : Option Addr) (l0 c0 l1 c1 : Nat) (S : Nat → ByteArray) (Z : Nat → ZP) (i : Int) (st id en : ByteArray) (dp : Option Addr) (a b : ByteArray) (w : World)
    (hl0 : l0 ≤ maxLen) (hl1 : l1 ≤ maxLen) (h0 : StrRow w A0 l0 S) (h1 : ZRow w A1 l1 Z) :
    Calls Try.prog 14 #[.slice A0 l0 c0, .slice A1 l1 c1, .int .i64 i, .agg #[.string st, .string id, .string en, .pointer dp], .string a, .string b] w (BndEnd l0 l1 w) := by
  unfold maxLen at hl0 hl1
  go_enter Try.func14, Try.ntmps14
  go_wp2
  · go_ret; exact bndNo ((Below.refl _ _).alloc (Nat.le_refl _) _)
  have hb0 : (l0 : Int) ≤ 1048576 := by assumption
  go_loop [13, 14] (fun t i => ∃ k : Nat, k ≤ l0 ∧ i = .int .i64 k ∧ ∃ z : Int, t = .int .i64 z ∧ 0 ≤ z ∧ z ≤ 1048576) (fun _ i => l0 - (intOf i).toNat)
  case atStart => exact ⟨0, Nat.zero_le _, rfl, _, rfl, by omega, by omega⟩
  case round =>
    obtain ⟨k, hk, rfl, z, rfl, hz0, hz1⟩ := hrel
    by_cases hlt : k < l0
    · rcases h0 with h0 | ⟨b0, off0, rfl, hc⟩
      · omega
      have hck := cell1 (hc k hlt)
      clear hc
      go_wp2
      · go_ret; exact bndNo ((Below.refl _ _).alloc (Nat.le_refl _) _)
      · go_ret; exact bndNo ((Below.refl _ _).alloc (Nat.le_refl _) _)
      · go_round
        case rel => exact ⟨k + 1, by omega, by go_num, _, rfl, by omega, by omega⟩
        case measure => simp [intOf]; omega
    · clear h0
      go_wp2
      · go_ret; exact bndNo ((Below.refl _ _).alloc (Nat.le_refl _) _)
      · go_ret; exact bndNo ((Below.refl _ _).alloc (Nat.le_refl _) _)
      have hb1 : (l1 : Int) ≤ 1048576 := by assumption
      go_loop [13, 15] (fun t i => ∃ k : Nat, k ≤ l1 ∧ i = .int .i64 k ∧ ∃ z : Int, t = .int .i64 z ∧ 0 ≤ z ∧ z ≤ 1048576) (fun _ i => l1 - (intOf i).toNat)
      case atStart => exact ⟨0, Nat.zero_le _, rfl, _, rfl, by omega, by omega⟩
      case round =>
        obtain ⟨k2, hk2, rfl, z2, rfl, hz20, hz21⟩ := hrel
        by_cases hlt2 : k2 < l1
        · rcases h1 with h1 | ⟨b1, off1, rfl, hc⟩
          · omega
          obtain ⟨d0, d1, d2, d3, day⟩ := hc k2 hlt2
          have t0 := cell1 d0
          have t1 := cell1 d1
          have t2 := cell1 d2
          clear hc d0 d1 d2 d3 day
          go_wp2
          · go_ret; exact bndNo ((Below.refl _ _).alloc (Nat.le_refl _) _)
          · go_ret; exact bndNo ((Below.refl _ _).alloc (Nat.le_refl _) _)
          · go_ret; exact bndNo ((Below.refl _ _).alloc (Nat.le_refl _) _)
          · go_ret; exact bndNo ((Below.refl _ _).alloc (Nat.le_refl _) _)
          · go_ret; exact bndNo ((Below.refl _ _).alloc (Nat.le_refl _) _)
          · go_ret; exact bndNo ((Below.refl _ _).alloc (Nat.le_refl _) _)
          · go_round
            case rel => exact ⟨k2 + 1, by omega, by go_num, _, rfl, by omega, by omega⟩
            case measure => simp [intOf]; omega
        · clear h1
          go_wp2
          all_goals go_ret
          all_goals first | exact bndNo ((Below.refl _ _).alloc (Nat.le_refl _) _) | exact bndYes hb0 hb1 ((Below.refl _ _).alloc (Nat.le_refl _) _)

def SomeBool (w : World) (e : Ending) (w' : World) : Prop := (∃ b, e = .returned (.bool b)) ∧ w' = w
theorem someBool {w : World} {b : Bool} : SomeBool w (.returned (.bool b)) w := ⟨⟨b, rfl⟩, rfl⟩

set_option maxRecDepth 100000 in
set_option maxHeartbeats 1000000 in
theorem within_any (A0 A1 : Option Addr) (l0 c0 l1 c1 : Nat) (S : Nat → ByteArray) (Z : Nat → ZP) (x : Int) (w : World)
    (hl0 : l0 ≤ maxLen) (hl1 : l1 ≤ maxLen) (h0 : StrRow w A0 l0 S) (h1 : ZRow w A1 l1 Z) :
    Calls Try.prog 6 #[.slice A0 l0 c0, .slice A1 l1 c1, .int .i64 x] w (SomeBool w) := by
  unfold maxLen at hl0 hl1
  by_cases b0 : (65536 : Int) < l0
  · go_enter Try.func6, Try.ntmps6
    go_wp2
    go_ret; exact someBool
  by_cases b1 : (65536 : Int) < l1
  · go_enter Try.func6, Try.ntmps6
    go_wp2
    go_ret; exact someBool
  by_cases b2 : x < 0
  · go_enter Try.func6, Try.ntmps6
    go_wp2
    go_ret; exact someBool
  by_cases b3 : (1048576 : Int) < x
  · go_enter Try.func6, Try.ntmps6
    go_wp2
    go_ret; exact someBool
  go_enter Try.func6, Try.ntmps6
  go_wp2
  go_loop [7, 8] (fun t i => ∃ k : Nat, k ≤ l0 ∧ i = .int .i64 k ∧ ∃ z : Int, t = .int .i64 z ∧ 0 ≤ z ∧ z ≤ 1048576) (fun _ i => l0 - (intOf i).toNat)
  case atStart => exact ⟨0, Nat.zero_le _, rfl, _, rfl, by omega, by omega⟩
  case round =>
    obtain ⟨k, hk, rfl, z, rfl, hz0, hz1⟩ := hrel
    by_cases hlt : k < l0
    · rcases h0 with h0 | ⟨b0, off0, rfl, hc⟩
      · omega
      have hck := hc k hlt
      clear hc
      go_wp2
      · go_ret; exact someBool
      · go_ret; exact someBool
      · go_round
        case rel => exact ⟨k + 1, by omega, by go_num, _, rfl, by omega, by omega⟩
        case measure => simp [intOf]; omega
    · clear h0
      go_wp2
      go_loop [7, 9] (fun t i => ∃ k : Nat, k ≤ l1 ∧ i = .int .i64 k ∧ ∃ z : Int, t = .int .i64 z ∧ 0 ≤ z ∧ z ≤ 1048576) (fun _ i => l1 - (intOf i).toNat)
      case atStart => exact ⟨0, Nat.zero_le _, rfl, _, rfl, by omega, by omega⟩
      case round =>
        obtain ⟨k2, hk2, rfl, z2, rfl, hz20, hz21⟩ := hrel
        by_cases hlt2 : k2 < l1
        · rcases h1 with h1 | ⟨b1, off1, rfl, hc⟩
          · omega
          obtain ⟨t0, t1, t2, d3, day⟩ := hc k2 hlt2
          clear hc d3 day
          by_cases s0 : (1048576 : Int) < ((Z k2).st.size : Int)
          · go_wp2
            go_ret; exact someBool
          by_cases s1 : (1048576 : Int) < ((Z k2).id.size : Int)
          · go_wp2
            go_ret; exact someBool
          by_cases s2 : (1048576 : Int) < ((Z k2).en.size : Int)
          · go_wp2
            go_ret; exact someBool
          go_wp2
          · go_ret; exact someBool
          · go_ret; exact someBool
          · go_ret; exact someBool
          · go_round
            case rel => exact ⟨k2 + 1, by omega, by go_num, _, rfl, by omega, by omega⟩
            case measure => simp [intOf]; omega
        · clear h1
          go_wp2
          go_ret; exact someBool

end Go.Proofs.Qxb6627641a
