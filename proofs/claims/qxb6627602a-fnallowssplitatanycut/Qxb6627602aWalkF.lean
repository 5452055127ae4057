/-
  WALKS (6): FnAllowsSplitAtAnyCut (function 4): the list empty; the early returns; every input.
-/
import Derived.Test.Qxb6627602aWalkE
namespace Go.Proofs.Qxb6627602a
open Go.ChangeShapes Go.WideShapes Go.RowKit
attribute [local go_sem ↓] Go.wp_at_zero Go.wp_at_succ

set_option maxHeartbeats 4000000 in
theorem spl_zero (A0 A1 A2 A3 : Option Addr) (n c0 c1 l2 c2 l3 c3 : Nat) (S : Nat → ByteArray) (B : Nat → Bool) (S2 S3 : Nat → ByteArray) (j : Nat) (p : Int) (q : ByteArray) (y : Bool) (w : World)
    (hl0 : n ≤ maxLen) (hl2 : l2 ≤ maxLen) (hl3 : l3 ≤ maxLen) (h0 : StrRow w A0 n S) (h1 : BoolRow w A1 n B) (h2 : StrRow w A2 l2 S2) (h3 : StrRow w A3 l3 S3)
    (hc0 : n ≤ c0) (hc1 : n ≤ c1) (hj : j ≤ n) (hz : ¬ 0 < n) :
    Calls Try.prog 4 #[.slice A0 n c0, .slice A1 n c1, .slice A2 l2 c2, .slice A3 l3 c3, .int .i64 (j : Int), .int .i64 p, .string q, .bool y] w (LawEnd w) := by
  go_enter Try.func4, Try.ntmps4
  go_wp2_with fail
  refine (bytesS_any _ _ _ _ _ _ _ _ _ _ _ _ S S2 S3 _ _ _ _ _ hl0 hl2 hl3 h0 h2 h3).mono ?_
  rintro e w' ⟨⟨b, rfl, hb⟩, hw⟩
  replace hw := hw.symm
  subst hw
  cases b
  · go_wp2_with fail
    go_ret; exact lawEnd rfl (Below.refl _ _)
  have hn : _ ≤ 1048576 := hb rfl
  clear hb
  go_wp2_with fail
  refine (fits_any _ _ _ _ _ _ _ _ _ _ _ _ S S2 S3 _ _ _ hl0 hl2 hl3 h0 h2 h3).mono ?_
  rintro e w'' ⟨⟨b, rfl⟩, hw⟩
  replace hw := hw.symm
  subst hw
  cases b
  · go_wp2_with fail
    go_ret; exact lawEnd rfl (Below.refl _ _)
  go_wp2_with fail
  refine (access_any _ _ _ _ _ S B _ hn h0 h1).mono ?_
  rintro e w1 ⟨g, rfl, hrow, hbel⟩
  have T1 : Ty (w1.alloc (.cells #[.slice (some ⟨g, 0, none⟩) n n, .slice A2 l2 c2, .slice A3 l3 c3] 30)).drew w1.heap.size g n S B := (Ty.made hrow _ _).drew
  have B1 : Below w.heap.size w (w1.alloc (.cells #[.slice (some ⟨g, 0, none⟩) n n, .slice A2 l2 c2, .slice A3 l3 c3] 30)).drew := (hbel.alloc hbel.size _).drew
  clear hrow hbel
  have s0 := cut_lo22 A0 n c0 j (by omega)
  have s1 := cut_lo23 A1 n c1 j (by omega)
  have u0 := cut_hi22 A0 n c0 j (by omega)
  have u1 := cut_hi23 A1 n c1 j (by omega)
  go_wp2_with fail
  go_region_with (go_at_call 7; refine (access_any _ _ _ _ _ S B _ (by omega) ((h0.below B1).take hj) ((h1.below B1).take hj)).mono ?_; rintro e w2 ⟨g2, rfl, hrow2, hbel2⟩)
  go_wp2_with fail
  have B2 : Below w.heap.size w (w2.alloc (.cells #[.slice (some ⟨g2, 0, none⟩) j j, .slice none 0 0, .slice none 0 0] 30)).drew := ((B1.trans (hbel2.mono B1.size)).alloc (Nat.le_trans B1.size hbel2.size) _).drew
  have T1b : Ty (w2.alloc (.cells #[.slice (some ⟨g2, 0, none⟩) j j, .slice none 0 0, .slice none 0 0] 30)).drew w1.heap.size g n S B := ((T1.below hbel2).alloc _).drew
  have T2 : Ty (w2.alloc (.cells #[.slice (some ⟨g2, 0, none⟩) j j, .slice none 0 0, .slice none 0 0] 30)).drew w2.heap.size g2 j S B := (Ty.made hrow2 _ _).drew
  clear hrow2 hbel2 T1 B1
  go_region_with (go_at_call 7; refine (access_any _ _ _ _ _ (fun i => S (j + i)) (fun i => B (j + i)) _ (by omega) ((h0.below B2).drop hj hc0) ((h1.below B2).drop hj hc1)).mono ?_; rintro e w3 ⟨g3, rfl, hrow3, hbel3⟩)
  have B3 : Below w.heap.size w (w3.alloc (.cells #[.slice (some ⟨g3, 0, none⟩) (n - j) (n - j), .slice none 0 0, .slice none 0 0] 30)) := (B2.trans (hbel3.mono B2.size)).alloc (Nat.le_trans B2.size hbel3.size) _
  have T1c : Ty (w3.alloc (.cells #[.slice (some ⟨g3, 0, none⟩) (n - j) (n - j), .slice none 0 0, .slice none 0 0] 30)) w1.heap.size g n S B := (T1b.below hbel3).alloc _
  have T2c : Ty (w3.alloc (.cells #[.slice (some ⟨g3, 0, none⟩) (n - j) (n - j), .slice none 0 0, .slice none 0 0] 30)) w2.heap.size g2 j S B := (T2.below hbel3).alloc _
  have T3 : Ty (w3.alloc (.cells #[.slice (some ⟨g3, 0, none⟩) (n - j) (n - j), .slice none 0 0, .slice none 0 0] 30)) w3.heap.size g3 (n - j) (fun i => S (j + i)) (fun i => B (j + i)) := Ty.made hrow3 _ _
  clear hrow3 hbel3 T1b T2 B2 s0 s1 u0 u1
  go_wp2_with fail
  have e1 : n = 0 := by omega
  have e2 : j = 0 := by omega
  have hr : Hid (allows S B q y n = false) := by rw [e1]; rfl
  have hl : Hid (allows S B q y j = false) := by rw [e2]; rfl
  have ht : Hid (allows (fun i => S (j + i)) (fun i => B (j + i)) q y (n - j) = false) := by rw [e1, e2]; rfl
  clear e1 e2
  refine (allows_ty _ _ _ S B _ _ _ hn T1c).mono ?_
  rintro e w4 ⟨he, hb4⟩
  rw [hr.out] at he
  subst he
  have B4 := B3.trans (hb4.mono B3.size)
  have T24 := T2c.below hb4
  have T34 := T3.below hb4
  clear B3 T1c T2c T3 hb4 hr
  go_wp2_with fail
  refine (allows_ty _ _ _ S B _ _ _ (by omega) T24).mono ?_
  rintro e w5 ⟨he, hb5⟩
  rw [hl.out] at he
  subst he
  have B5 := B4.trans (hb5.mono B4.size)
  have T35 := T34.below hb5
  clear B4 T24 T34 hb5 hl
  go_wp2_with fail
  refine (allows_ty _ _ _ (fun i => S (j + i)) (fun i => B (j + i)) _ _ _ (by omega) T35).mono ?_
  rintro e w6 ⟨he, hb6⟩
  rw [ht.out] at he
  subst he
  have B6 := B5.trans (hb6.mono B5.size)
  clear B5 T35 hb6 ht
  go_wp2_with fail
  go_ret
  exact ⟨rfl, B6⟩

set_option maxHeartbeats 1000000 in
theorem spl_early (A0 A1 A2 A3 : Option Addr) (l0 c0 l1 c1 l2 c2 l3 c3 : Nat) (S0 S2 S3 : Nat → ByteArray) (i p : Int) (q : ByteArray) (y : Bool) (w : World)
    (hl0 : l0 ≤ maxLen) (hl2 : l2 ≤ maxLen) (hl3 : l3 ≤ maxLen) (h0 : StrRow w A0 l0 S0) (h2 : StrRow w A2 l2 S2) (h3 : StrRow w A3 l3 S3)
    (hno : ¬ (l0 = l1 ∧ 0 ≤ i ∧ i ≤ (l0 : Int) ∧ (0 < l0 → 0 ≤ p ∧ p < (l0 : Int)))) :
    Calls Try.prog 4 #[.slice A0 l0 c0, .slice A1 l1 c1, .slice A2 l2 c2, .slice A3 l3 c3, .int .i64 i, .int .i64 p, .string q, .bool y] w (LawEnd w) := by
  have HNO : Hid _ := hno
  clear hno
  go_enter Try.func4, Try.ntmps4
  go_wp2_with fail
  refine (bytesS_any _ _ _ _ _ _ _ _ _ _ _ _ S0 S2 S3 _ _ _ _ _ hl0 hl2 hl3 h0 h2 h3).mono ?_
  rintro e w' ⟨⟨b, rfl, hb⟩, hw⟩
  replace hw := hw.symm
  subst hw
  cases b
  · go_wp2_with fail
    go_ret; exact lawEnd rfl (Below.refl _ _)
  clear hb
  go_wp2_with fail
  refine (fits_any _ _ _ _ _ _ _ _ _ _ _ _ S0 S2 S3 _ _ _ hl0 hl2 hl3 h0 h2 h3).mono ?_
  rintro e w'' ⟨⟨b, rfl⟩, hw⟩
  replace hw := hw.symm
  subst hw
  cases b
  · go_wp2_with fail
    go_ret; exact lawEnd rfl (Below.refl _ _)
  by_cases hlen : l0 = l1
  · subst hlen
    by_cases hneg : i < 0
    · go_wp2_with fail
      go_ret; exact lawEnd rfl (Below.refl _ _)
    · by_cases hbig : (l0 : Int) < i
      · go_wp2_with fail
        go_ret; exact lawEnd rfl (Below.refl _ _)
      · have hpos : 0 < l0 := by
          have h := HNO.out
          apply Nat.pos_of_ne_zero
          intro e
          exact h ⟨rfl, by omega, by omega, fun h => by omega⟩
        by_cases hp0 : p < 0
        · go_wp2_with fail
          go_ret; exact lawEnd rfl (Below.refl _ _)
        · have hp1 : (l0 : Int) ≤ p := by
            have h := HNO.out
            apply Int.not_lt.1
            intro e
            exact h ⟨rfl, by omega, by omega, fun _ => ⟨by omega, e⟩⟩
          go_wp2_with fail
          go_ret; exact lawEnd rfl (Below.refl _ _)
  · have hne : ((l0 : Int) == (l1 : Int)) = false := by simp; omega
    go_wp2_with fail
    go_ret; exact lawEnd rfl (Below.refl _ _)

/-- EVERY INPUT: the law answers true; nothing that was there has turned. -/
theorem spl_any (A0 A1 A2 A3 : Option Addr) (l0 c0 l1 c1 l2 c2 l3 c3 : Nat) (S : Nat → ByteArray) (B : Nat → Bool) (S2 S3 : Nat → ByteArray) (i p : Int) (q : ByteArray) (y : Bool) (w : World)
    (hl0 : l0 ≤ maxLen) (hl2 : l2 ≤ maxLen) (hl3 : l3 ≤ maxLen) (h0 : StrRow w A0 l0 S) (h1 : BoolRow w A1 l1 B) (h2 : StrRow w A2 l2 S2) (h3 : StrRow w A3 l3 S3) (hc0 : l0 ≤ c0) (hc1 : l1 ≤ c1) :
    Calls Try.prog 4 #[.slice A0 l0 c0, .slice A1 l1 c1, .slice A2 l2 c2, .slice A3 l3 c3, .int .i64 i, .int .i64 p, .string q, .bool y] w (LawEnd w) := by
  by_cases h : l0 = l1 ∧ 0 ≤ i ∧ i ≤ (l0 : Int) ∧ (0 < l0 → 0 ≤ p ∧ p < (l0 : Int))
  · obtain ⟨e, hi, hle, hp⟩ := h
    subst e
    obtain ⟨j, rfl⟩ := Int.eq_ofNat_of_zero_le hi
    by_cases hz : 0 < l0
    · obtain ⟨hp0, hp1⟩ := hp hz
      obtain ⟨k, rfl⟩ := Int.eq_ofNat_of_zero_le hp0
      exact spl_pos _ _ _ _ _ _ _ _ _ _ _ S B S2 S3 _ _ _ _ _ hl0 hl2 hl3 h0 h1 h2 h3 hc0 hc1 (by omega) (by omega)
    · exact spl_zero _ _ _ _ _ _ _ _ _ _ _ S B S2 S3 _ _ _ _ _ hl0 hl2 hl3 h0 h1 h2 h3 hc0 hc1 (by omega) hz
  · exact spl_early _ _ _ _ _ _ _ _ _ _ _ _ S S2 S3 _ _ _ _ _ hl0 hl2 hl3 h0 h2 h3 h

end Go.Proofs.Qxb6627602a
