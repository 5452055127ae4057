/-
  WALKS (4): FnAllowsEntryInsertedAnywhere (function 3).
-/
import Derived.Test.Qxb6627602aWalkB
import Derived.Test.Qxb6627602aWalkC
namespace Go.Proofs.Qxb6627602a
open Go.ChangeShapes Go.WideShapes Go.RowKit

/-- A family with one more member at place j. -/
def insAt {α : Type} (S : Nat → α) (a : α) (j : Nat) (i : Nat) : α := if i < j then S i else if i = j then a else S (i - 1)

theorem ins_low (S : Nat → ByteArray) (B : Nat → Bool) (a : ByteArray) (x : Bool) (j : Nat) (q : ByteArray) (y : Bool) : ∀ k, k ≤ j → allows (insAt S a j) (insAt B x j) q y k = allows S B q y k
  | 0, _ => rfl
  | k + 1, h => by
    rw [allows, allows, ins_low S B a x j q y k (by omega)]
    simp only [insAt, if_pos (show k < j by omega)]

theorem ins_high (S : Nat → ByteArray) (B : Nat → Bool) (a : ByteArray) (x : Bool) (j : Nat) (q : ByteArray) (y : Bool) : ∀ d, allows (insAt S a j) (insAt B x j) q y (j + d + 1) = (allows S B q y (j + d) || (a.toList == q.toList && (x || !y)))
  | 0 => by
    show allows (insAt S a j) (insAt B x j) q y (j + 1) = (allows S B q y j || (a.toList == q.toList && (x || !y)))
    rw [allows, ins_low S B a x j q y j (Nat.le_refl _)]
    simp only [insAt, if_neg (Nat.lt_irrefl j), if_true]
  | d + 1 => by
    rw [show j + (d + 1) + 1 = (j + d + 1) + 1 by omega, allows, ins_high S B a x j q y d, show j + (d + 1) = (j + d) + 1 by omega]
    rw [allows]
    simp only [insAt, if_neg (show ¬ j + d + 1 < j by omega), if_neg (show ¬ j + d + 1 = j by omega), Nat.add_sub_cancel]
    generalize allows S B q y (j + d) = u
    generalize (a.toList == q.toList && (x || !y)) = v
    generalize ((S (j + d)).toList == q.toList && (B (j + d) || !y)) = t
    cases u <;> cases v <;> cases t <;> rfl

theorem ins_law (S : Nat → ByteArray) (B : Nat → Bool) (a : ByteArray) (x : Bool) (j n : Nat) (q : ByteArray) (y : Bool) (h : j ≤ n) : allows (insAt S a j) (insAt B x j) q y (n + 1) = (allows S B q y n || (a.toList == q.toList && (x || !y))) := by
  have := ins_high S B a x j q y (n - j)
  rwa [show j + (n - j) = n by omega] at this

def LawEnd (w : World) (e : Ending) (w' : World) : Prop := e = .returned (.bool true) ∧ Below w.heap.size w w'
theorem lawEnd {w w' : World} {b : Bool} (h : b = true) (hb : Below w.heap.size w w') : LawEnd w (.returned (.bool b)) w' := ⟨by rw [h], hb⟩

set_option maxHeartbeats 1000000 in
theorem ins_early (A0 A1 A2 A3 : Option Addr) (l0 c0 l1 c1 l2 c2 l3 c3 : Nat) (S0 S2 S3 : Nat → ByteArray) (i : Int) (a q : ByteArray) (x y : Bool) (w : World)
    (hl0 : l0 ≤ maxLen) (hl2 : l2 ≤ maxLen) (hl3 : l3 ≤ maxLen) (h0 : StrRow w A0 l0 S0) (h2 : StrRow w A2 l2 S2) (h3 : StrRow w A3 l3 S3)
    (hno : ¬ (l0 = l1 ∧ 0 ≤ i ∧ i ≤ (l0 : Int))) :
    Calls Try.prog 3 #[.slice A0 l0 c0, .slice A1 l1 c1, .slice A2 l2 c2, .slice A3 l3 c3, .int .i64 i, .string a, .bool x, .string q, .bool y] w (LawEnd w) := by
  go_enter Try.func3, Try.ntmps3
  go_wp2_with fail
  refine (bytesE_any _ _ _ _ _ _ _ _ _ _ _ _ S0 S2 S3 _ _ _ _ _ _ hl0 hl2 hl3 h0 h2 h3).mono ?_
  rintro e w' ⟨⟨b, rfl, hb⟩, hw⟩
  replace hw := hw.symm
  subst hw
  cases b
  · go_wp2_with fail
    go_ret; exact lawEnd rfl (Below.refl _ _)
  have hn : _ ≤ 1048576 := hb rfl
  clear hb
  go_wp2_with fail
  refine (fits_any _ _ _ _ _ _ _ _ _ _ _ _ S0 S2 S3 _ _ _ hl0 hl2 hl3 h0 h2 h3).mono ?_
  rintro e w'' ⟨⟨b, rfl⟩, hw⟩
  replace hw := hw.symm
  subst hw
  cases b
  · go_wp2_with fail
    go_ret; exact lawEnd rfl (Below.refl _ _)
  by_cases hlen : l0 = l1
  · subst hlen
    by_cases hneg : i < 0
    · go_wp2_with fail
      go_ret; exact lawEnd rfl (Below.refl _ _)
    · have hbig : (l0 : Int) < i := by omega
      go_wp2_with fail
      go_ret; exact lawEnd rfl (Below.refl _ _)
  · have hne : ((l0 : Int) == (l1 : Int)) = false := by simp; omega
    go_wp2_with fail
    go_ret; exact lawEnd rfl (Below.refl _ _)

abbrev boxOf (g n : Nat) (A2 : Option Addr) (l2 c2 : Nat) (A3 : Option Addr) (l3 c3 : Nat) : Obj := .cells #[.slice (some ⟨g, 0, none⟩) n n, .slice A2 l2 c2, .slice A3 l3 c3] 30

/-- A cell that was there when the call began, in a later world. -/
theorem old_cell {w w1 wr : World} {o : Obj} (h1 : Below w.heap.size w w1) (h2 : Below (w1.heap.size + 1) (w1.alloc o) wr) {b off : Nat} {v : Value} (h : w.cell? ⟨b, off, none⟩ = some v) : wr.cell? ⟨b, off, none⟩ = some v := by
  have l0 : b < w.heap.size := World.block_lt_of_cell? w _ h
  have l1 := h1.size
  rw [h2.cell (p := ⟨b, off, none⟩) (show b < w1.heap.size + 1 by omega), World.cell?_alloc_lt _ _ _ (show b < w1.heap.size by omega), h1.cell (p := ⟨b, off, none⟩) l0, h]

set_option maxHeartbeats 1000000 in
theorem ins_main (A0 A1 A2 A3 : Option Addr) (n c0 c1 l2 c2 l3 c3 : Nat) (S : Nat → ByteArray) (B : Nat → Bool) (S2 S3 : Nat → ByteArray) (j : Nat) (a q : ByteArray) (x y : Bool) (w : World)
    (hl0 : n ≤ maxLen) (hl2 : l2 ≤ maxLen) (hl3 : l3 ≤ maxLen) (h0 : StrRow w A0 n S) (h1 : BoolRow w A1 n B) (h2 : StrRow w A2 l2 S2) (h3 : StrRow w A3 l3 S3)
    (hj : j ≤ n) :
    Calls Try.prog 3 #[.slice A0 n c0, .slice A1 n c1, .slice A2 l2 c2, .slice A3 l3 c3, .int .i64 (j : Int), .string a, .bool x, .string q, .bool y] w (LawEnd w) := by
  go_enter Try.func3, Try.ntmps3
  go_wp2_with fail
  refine (bytesE_any _ _ _ _ _ _ _ _ _ _ _ _ S S2 S3 _ _ _ _ _ _ hl0 hl2 hl3 h0 h2 h3).mono ?_
  rintro e w' ⟨⟨b, rfl, hb⟩, hw⟩
  replace hw := hw.symm
  subst hw
  cases b
  · go_wp2_with fail
    go_ret; exact lawEnd rfl (Below.refl _ _)
  have hn : _ ≤ 1048576 := hb rfl
  clear hb
  go_wp2_with fail
  refine (fits_any _ _ _ _ _ _ _ _ _ _ _ _ S S2 S3 _ _ _ hl0 hl2 hl3 h0 h2 h3).mono ?_
  rintro e w'' ⟨⟨b, rfl⟩, hw⟩
  replace hw := hw.symm
  subst hw
  cases b
  · go_wp2_with fail
    go_ret; exact lawEnd rfl (Below.refl _ _)
  go_wp2_with fail
  refine (access_any _ _ _ _ _ S B _ hn h0 h1).mono ?_
  rintro e w1 ⟨g, rfl, hrow, hbel⟩
  have hmk := mk_acc (n + 1) (by omega)
  rw [show ((n + 1 : Nat) : Int) = (n : Int) + 1 by omega] at hmk
  go_wp2_with fail
  clear hmk
  have lg := hrow.lt
  go_loopw [22] (fun i wx => ∃ k : Nat, k ≤ j ∧ i = .int .i64 k ∧ RowTo wx (w1.heap.size + 1) (n + 1) k (insAt S a j) (insAt B x j) ∧ Below (w1.heap.size + 1) (w1.alloc (boxOf g n A2 l2 c2 A3 l3 c3)) wx) (fun i _ => j - (intOf i).toNat)
  case atStart => exact ⟨0, Nat.zero_le _, rfl, by simpa using RowTo.zero (w1.alloc (boxOf g n A2 l2 c2 A3 l3 c3)) (n + 1) (insAt S a j) (insAt B x j), (Below.refl _ _).alloc (by simp) _⟩
  case round =>
    obtain ⟨k, hk, rfl, hrow2, hbel2⟩ := hrel
    by_cases hlt : k < j
    · rcases h0 with h0 | ⟨b0, off0, rfl, e0⟩
      · omega
      rcases h1 with h1 | ⟨b1, off1, rfl, e1⟩
      · omega
      have t0 := old_cell hbel hbel2 (e0 k (by omega))
      have t1 := old_cell hbel hbel2 (e1 k (by omega))
      obtain ⟨v0, v1, t2, t3, f0, f1⟩ := hrow2.there k (by omega)
      have i0 : S k = insAt S a j k := by simp [insAt, hlt]
      have i1 : B k = insAt B x j k := by simp [insAt, hlt]
      have I0 : Hid (S k = insAt S a j k) := i0
      have I1 : Hid (B k = insAt B x j k) := i1
      clear e0 e1 i0 i1
      go_wp2
      go_region
      all_goals
        go_wp2
        go_roundw
        case rel => exact ⟨k + 1, by omega, by go_num, (hrow2.put _ _ I0.out I1.out).drew, ((hbel2.setCell (p := ⟨w1.heap.size + 1, k * 2, none⟩) (Nat.le_refl _) _).setCell (p := ⟨w1.heap.size + 1, k * 2 + 1, none⟩) (Nat.le_refl _) _).drew⟩
        case measure => simp [intOf]; omega
    · have e : k = j := by omega
      subst e
      obtain ⟨v0, v1, t2, t3, f0, f1⟩ := hrow2.there k (by omega)
      have R0 := hrow2.put a x (by simp [insAt]) (by simp [insAt])
      have L0 := (hbel2.setCell (p := ⟨w1.heap.size + 1, k * 2, none⟩) (Nat.le_refl _) (.string a)).setCell (p := ⟨w1.heap.size + 1, k * 2 + 1, none⟩) (Nat.le_refl _) (.bool x)
      clear hrow2 hbel2
      go_wp2
      clear t2 t3 f0 f1
      go_loopw [23] (fun i wx => ∃ m : Nat, k ≤ m ∧ m ≤ n ∧ i = .int .i64 m ∧ RowTo wx (w1.heap.size + 1) (n + 1) (m + 1) (insAt S a k) (insAt B x k) ∧ Below (w1.heap.size + 1) (w1.alloc (boxOf g n A2 l2 c2 A3 l3 c3)) wx) (fun i _ => n - (intOf i).toNat)
      case atStart => exact ⟨k, Nat.le_refl _, hj, rfl, R0, L0⟩
      case round =>
        clear R0 L0
        obtain ⟨m, hkm, hm, rfl, hrow2, hbel2⟩ := hrel
        by_cases hlt2 : m < n
        · rcases h0 with h0 | ⟨b0, off0, rfl, e0⟩
          · omega
          rcases h1 with h1 | ⟨b1, off1, rfl, e1⟩
          · omega
          have t0 := old_cell hbel hbel2 (e0 m (by omega))
          have t1 := old_cell hbel hbel2 (e1 m (by omega))
          obtain ⟨v2, v3, t2, t3, f0, f1⟩ := hrow2.there (m + 1) (by omega)
          have I0 : Hid (S m = insAt S a k (m + 1)) := by simp [Hid, insAt, show ¬ m + 1 < k by omega, show ¬ m + 1 = k by omega]
          have I1 : Hid (B m = insAt B x k (m + 1)) := by simp [Hid, insAt, show ¬ m + 1 < k by omega, show ¬ m + 1 = k by omega]
          clear e0 e1
          go_wp2
          go_region
          all_goals
            go_wp2
            go_roundw
            case rel => exact ⟨m + 1, by omega, by omega, by go_num, (hrow2.put _ _ I0.out I1.out).drew, ((hbel2.setCell (p := ⟨w1.heap.size + 1, (m + 1) * 2, none⟩) (Nat.le_refl _) _).setCell (p := ⟨w1.heap.size + 1, (m + 1) * 2 + 1, none⟩) (Nat.le_refl _) _).drew⟩
            case measure => simp [intOf]; omega
        · have e : m = n := by omega
          subst e
          go_wp2_with fail
          have rB : RowTo (wr.alloc (boxOf (w1.heap.size + 1) (m + 1) A2 l2 c2 A3 l3 c3)) g m m S B := ((hrow.alloc _).of_below hbel2 (by omega)).alloc _
          have rA : RowTo (wr.alloc (boxOf (w1.heap.size + 1) (m + 1) A2 l2 c2 A3 l3 c3)) (w1.heap.size + 1) (m + 1) (m + 1) (insAt S a k) (insAt B x k) := hrow2.alloc _
          have tB : (wr.alloc (boxOf (w1.heap.size + 1) (m + 1) A2 l2 c2 A3 l3 c3)).cell? ⟨w1.heap.size, 0, none⟩ = some (.slice (some ⟨g, 0, none⟩) m m) := by
            have := hrow2.lt
            rw [World.cell?_alloc_lt _ _ _ (show w1.heap.size < wr.heap.size by omega), hbel2.cell (p := ⟨w1.heap.size, 0, none⟩) (Nat.lt_succ_self _)]
            simp
          have tA : (wr.alloc (boxOf (w1.heap.size + 1) (m + 1) A2 l2 c2 A3 l3 c3)).cell? ⟨wr.heap.size, 0, none⟩ = some (.slice (some ⟨w1.heap.size + 1, 0, none⟩) (m + 1) (m + 1)) := by simp
          have sz : (wr.alloc (boxOf (w1.heap.size + 1) (m + 1) A2 l2 c2 A3 l3 c3)).heap.size = wr.heap.size + 1 := by simp
          have bel0 : Below w.heap.size w (wr.alloc (boxOf (w1.heap.size + 1) (m + 1) A2 l2 c2 A3 l3 c3)) := by
            have s1 := hbel.size
            have s2 := hbel2.size
            exact ((hbel.alloc s1 _).trans (hbel2.mono (by omega))).alloc (by simp at s2; omega) _
          refine (allows_any _ _ _ _ S B _ _ _ (by unfold maxLen; omega) tB rB.cells.1 rB.cells.2).mono ?_
          rintro e w2 ⟨rfl, hbel3⟩
          have tA2 := (hbel3.cell (p := ⟨wr.heap.size, 0, none⟩) (by simp)).trans tA
          have rA2 := rA.of_below hbel3 rA.lt
          have bel1 := bel0.trans (hbel3.mono bel0.size)
          clear hbel3 tA rA bel0 tB rB
          go_wp2_with fail
          all_goals
            refine (allows_any _ _ _ _ (insAt S a k) (insAt B x k) _ _ _ (by unfold maxLen; omega) tA2 rA2.cells.1 rA2.cells.2).mono ?_
            rintro e w3 ⟨rfl, hbel4⟩
            have bel2 := bel1.trans (hbel4.mono bel1.size)
            clear hbel4
            go_wp2_with fail
          all_goals go_ret
          · exact lawEnd (by rw [ins_law S B a true k m q y hkm, hit1 ‹_› rfl, Bool.or_true]) bel2
          · exact lawEnd (by rw [ins_law S B a false k m q y hkm, hit2 ‹_› ‹_›, Bool.or_true]) bel2
          · exact lawEnd (by rw [ins_law S B a false k m q y hkm, miss2 (by simp) ‹_›, Bool.or_false]; simp) bel2
          · exact lawEnd (by rw [ins_law S B a x k m q y hkm, miss1 ‹_›, Bool.or_false]; simp) bel2

/-- EVERY INPUT: the law answers true; nothing that was there has turned. -/
theorem ins_any (A0 A1 A2 A3 : Option Addr) (l0 c0 l1 c1 l2 c2 l3 c3 : Nat) (S : Nat → ByteArray) (B : Nat → Bool) (S2 S3 : Nat → ByteArray) (i : Int) (a q : ByteArray) (x y : Bool) (w : World)
    (hl0 : l0 ≤ maxLen) (hl2 : l2 ≤ maxLen) (hl3 : l3 ≤ maxLen) (h0 : StrRow w A0 l0 S) (h1 : BoolRow w A1 l1 B) (h2 : StrRow w A2 l2 S2) (h3 : StrRow w A3 l3 S3) :
    Calls Try.prog 3 #[.slice A0 l0 c0, .slice A1 l1 c1, .slice A2 l2 c2, .slice A3 l3 c3, .int .i64 i, .string a, .bool x, .string q, .bool y] w (LawEnd w) := by
  by_cases h : l0 = l1 ∧ 0 ≤ i ∧ i ≤ (l0 : Int)
  · obtain ⟨e, hi, hle⟩ := h
    subst e
    obtain ⟨j, rfl⟩ := Int.eq_ofNat_of_zero_le hi
    exact ins_main _ _ _ _ _ _ _ _ _ _ _ S B S2 S3 _ _ _ _ _ _ hl0 hl2 hl3 h0 h1 h2 h3 (by omega)
  · exact ins_early _ _ _ _ _ _ _ _ _ _ _ _ S S2 S3 _ _ _ _ _ _ hl0 hl2 hl3 h0 h2 h3 h

end Go.Proofs.Qxb6627602a
