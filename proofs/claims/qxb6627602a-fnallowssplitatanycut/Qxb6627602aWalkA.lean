/-
  WALKS (1): zzAddStrings (function 10), zzFitsBytes (6), (*Type).Allows (8): over whatever strings and bools.
-/
import Derived.Test.Qxb6627602aRows
import Derived.WalkKit
namespace Go.Proofs.Qxb6627602a
open Go.ChangeShapes Go.WideShapes Go.RowKit

/-- What a walk is told of a slice of strings: it is empty, or its cells lie at an address and hold the strings 'S i'. -/
def StrRow (w : World) (A : Option Addr) (len : Nat) (S : Nat → ByteArray) : Prop :=
  len = 0 ∨ ∃ b off, A = some ⟨b, off, none⟩ ∧ ∀ i, i < len → w.cell? ⟨b, off + i, none⟩ = some (.string (S i))

/-- What a walk is told of a slice of bools. -/
def BoolRow (w : World) (A : Option Addr) (len : Nat) (B : Nat → Bool) : Prop :=
  len = 0 ∨ ∃ b off, A = some ⟨b, off, none⟩ ∧ ∀ i, i < len → w.cell? ⟨b, off + i, none⟩ = some (.bool (B i))

def AddEnd (w : World) (e : Ending) (w' : World) : Prop := (∃ t b, e = .returned (.tuple #[.int .i64 t, .bool b]) ∧ 0 ≤ t ∧ t ≤ 1048576) ∧ w' = w
theorem addEnd {w : World} {t : Int} {b : Bool} (h0 : 0 ≤ t) (h1 : t ≤ 1048576) : AddEnd w (.returned (.tuple #[.int .i64 t, .bool b])) w := ⟨⟨t, b, rfl, h0, h1⟩, rfl⟩

set_option maxHeartbeats 400000 in
theorem add_any (total : Int) (A : Option Addr) (len cap : Nat) (S : Nat → ByteArray) (w : World) (h0 : 0 ≤ total) (h1 : total ≤ 1048576)
    (hl : len ≤ maxLen) (hS : StrRow w A len S) : Calls Try.prog 10 #[.int .i64 total, .slice A len cap] w (AddEnd w) := by
  unfold maxLen at hl
  go_enter Try.func10, Try.ntmps10
  go_wp2
  · go_ret2
    exact addEnd (by omega) (by omega)
  · go_loop [0, 6] (fun t i => ∃ k : Nat, k ≤ len ∧ i = .int .i64 k ∧ ∃ z : Int, t = .int .i64 z ∧ 0 ≤ z ∧ z ≤ 1048576) (fun _ i => len - (intOf i).toNat)
    case atStart => exact ⟨0, Nat.zero_le _, rfl, _, rfl, by omega, by omega⟩
    case round =>
      obtain ⟨k, hk, rfl, z, rfl, hz0, hz1⟩ := hrel
      by_cases hlt : k < len
      · rcases hS with hS | ⟨b, off, rfl, hc⟩
        · omega
        have hck := hc k hlt
        clear hc
        go_wp2
        · go_ret2
          exact addEnd (by omega) (by omega)
        · go_round
          case rel => exact ⟨k + 1, by omega, by go_num, _, rfl, by omega, by omega⟩
          case measure => simp [intOf]; omega
      · go_wp2
        go_ret2
        exact addEnd (by omega) (by omega)

/-- zzFitsBytes: some bool; the world stands. -/
def SomeBool (w : World) (e : Ending) (w' : World) : Prop := (∃ b, e = .returned (.bool b)) ∧ w' = w
theorem someBool {w : World} {b : Bool} : SomeBool w (.returned (.bool b)) w := ⟨⟨b, rfl⟩, rfl⟩

set_option maxHeartbeats 400000 in
theorem fits_any (A0 A1 A2 A3 : Option Addr) (l0 c0 l1 c1 l2 c2 l3 c3 : Nat) (S0 S2 S3 : Nat → ByteArray) (a b : ByteArray) (w : World)
    (hl0 : l0 ≤ maxLen) (hl2 : l2 ≤ maxLen) (hl3 : l3 ≤ maxLen) (h0 : StrRow w A0 l0 S0) (h2 : StrRow w A2 l2 S2) (h3 : StrRow w A3 l3 S3) :
    Calls Try.prog 6 #[.slice A0 l0 c0, .slice A1 l1 c1, .slice A2 l2 c2, .slice A3 l3 c3, .string a, .string b] w (SomeBool w) := by
  go_enter Try.func6, Try.ntmps6
  go_wp2_with fail
  · go_ret; exact someBool
  · go_ret; exact someBool
  · go_ret; exact someBool
  refine (add_any _ _ _ _ S0 _ (by omega) (by omega) hl0 h0).mono ?_
  rintro e w' ⟨⟨t, o1, rfl, ht0, ht1⟩, hw⟩
  subst hw
  cases o1
  · go_wp2_with fail
    go_ret; exact someBool
  go_wp2_with fail
  refine (add_any _ _ _ _ S2 _ (by omega) (by omega) hl2 h2).mono ?_
  rintro e w'' ⟨⟨t2, o2, rfl, ht20, ht21⟩, hw⟩
  subst hw
  cases o2
  · go_wp2_with fail
    go_ret; exact someBool
  go_wp2_with fail
  refine (add_any _ _ _ _ S3 _ (by omega) (by omega) hl3 h3).mono ?_
  rintro e w3 ⟨⟨t3, o3, rfl, ht30, ht31⟩, hw⟩
  subst hw
  go_wp2_with fail
  go_ret; exact someBool

/-- Does an access list (tables S, marks B, n entries) allow (q, wr)? -/
def allows (S : Nat → ByteArray) (B : Nat → Bool) (q : ByteArray) (wr : Bool) : Nat → Bool
  | 0 => false
  | n + 1 => allows S B q wr n || ((S n).toList == q.toList && (B n || !wr))

theorem allows_hit (S : Nat → ByteArray) (B : Nat → Bool) (q : ByteArray) (wq : Bool) (k : Nat) (h : ((S k).toList == q.toList && (B k || !wq)) = true) : ∀ n, k < n → allows S B q wq n = true
  | 0, hk => absurd hk (Nat.not_lt_zero _)
  | n + 1, hk => by
    by_cases e : k = n
    · subst e; simp only [allows, h, Bool.or_true]
    · have := allows_hit S B q wq k h n (by omega)
      simp only [allows, this, Bool.true_or]

theorem hit1 {s q : ByteArray} {b wq : Bool} (h : s.toList = q.toList) (hb : b = true) : (s.toList == q.toList && (b || !wq)) = true := by simp [h, hb]
theorem hit2 {s q : ByteArray} {b wq : Bool} (h : s.toList = q.toList) (hb : (!wq) = true) : (s.toList == q.toList && (b || !wq)) = true := by simp [h] at hb ⊢; simp [hb]
theorem miss1 {s q : ByteArray} {b wq : Bool} (h : ¬ s.toList = q.toList) : (s.toList == q.toList && (b || !wq)) = false := by simp [h]
theorem miss2 {s q : ByteArray} {b wq : Bool} (h : ¬ b = true) (hb : (!wq) = false) : (s.toList == q.toList && (b || !wq)) = false := by simp at h hb; simp [h, hb]

theorem allows_miss {S : Nat → ByteArray} {B : Nat → Bool} {q : ByteArray} {wq : Bool} {k : Nat} (h0 : allows S B q wq k = false) (h : ((S k).toList == q.toList && (B k || !wq)) = false) : allows S B q wq (k + 1) = false := by
  simp only [allows, h0, h, Bool.or_false]

def AllowsEnd (S : Nat → ByteArray) (B : Nat → Bool) (q : ByteArray) (wr : Bool) (n : Nat) (w : World) (e : Ending) (w' : World) : Prop :=
  e = .returned (.bool (allows S B q wr n)) ∧ Below w.heap.size w w'

theorem bcell {W w1 : World} (hb : Below W.heap.size W w1) : (∀ b o, b < W.heap.size → w1.cell? ⟨b, o, none⟩ = W.cell? ⟨b, o, none⟩) ∧ (∀ b o, b < W.heap.size → w1.frozen? ⟨b, o, none⟩ = W.frozen? ⟨b, o, none⟩) :=
  ⟨fun b o h => hb.cell (p := ⟨b, o, none⟩) h, fun b o h => hb.frozen (p := ⟨b, o, none⟩) h⟩

set_option maxHeartbeats 400000 in
theorem allows_any (tb g n c : Nat) (S : Nat → ByteArray) (B : Nat → Bool) (q : ByteArray) (wq : Bool) (w : World) (hn : n ≤ maxLen)
    (ht : w.cell? ⟨tb, 0, none⟩ = some (.slice (some ⟨g, 0, none⟩) n c))
    (h0 : ∀ i, i < n → w.cell? ⟨g, i * 2, none⟩ = some (.string (S i))) (h1 : ∀ i, i < n → w.cell? ⟨g, i * 2 + 1, none⟩ = some (.bool (B i))) :
    Calls Try.prog 8 #[.pointer (some ⟨tb, 0, none⟩), .string q, .bool wq] w (AllowsEnd S B q wq n w) := by
  unfold maxLen at hn
  go_enter Try.func8, Try.ntmps8
  go_wp2
  go_loopw [14] (fun i wx => ∃ k : Nat, k ≤ n ∧ i = .int .i64 k ∧ allows S B q wq k = false ∧ Below w.heap.size w wx) (fun i _ => n - (intOf i).toNat)
  case atStart => exact ⟨0, Nat.zero_le _, rfl, rfl, Below.refl _ _⟩
  case round =>
    obtain ⟨k, hk, rfl, hno, hbel⟩ := hrel
    have HN : Hid (allows S B q wq k = false) := hno
    clear hno
    by_cases hlt : k < n
    · have e0 := h0 k hlt
      have e1 := h1 k hlt
      have lg : g < w.heap.size := World.block_lt_of_cell? w _ e0
      have c0 : wr.cell? ⟨g, k * 2, none⟩ = some (.string (S k)) := (hbel.cell (p := ⟨g, k * 2, none⟩) lg).trans e0
      have c1 : wr.cell? ⟨g, k * 2 + 1, none⟩ = some (.bool (B k)) := (hbel.cell (p := ⟨g, k * 2 + 1, none⟩) lg).trans e1
      have hs := hbel.size
      clear h0 h1 ht e0 e1
      go_wp2
      · go_ret
        exact ⟨by rw [allows_hit S B q wq k (hit1 ‹_› ‹_›) n hlt]; rfl, hbel.alloc hs _⟩
      · go_ret
        exact ⟨by rw [allows_hit S B q wq k (hit2 ‹_› ‹_›) n hlt]; rfl, hbel.alloc hs _⟩
      · go_roundw
        case rel => exact ⟨k + 1, by omega, by go_num, allows_miss HN.out (miss2 ‹_› ‹_›), hbel.alloc hs _⟩
        case measure => simp [intOf]; omega
      · go_roundw
        case rel => exact ⟨k + 1, by omega, by go_num, allows_miss HN.out (miss1 ‹_›), hbel.alloc hs _⟩
        case measure => simp [intOf]; omega
    · go_wp2
      go_ret
      have e : k = n := by omega
      subst e
      exact ⟨by rw [HN.out]; rfl, hbel⟩

end Go.Proofs.Qxb6627602a
