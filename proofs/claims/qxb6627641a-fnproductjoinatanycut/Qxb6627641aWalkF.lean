/-
  WALKS (6): FnProductJoinAtAnyCut (function 3): a place out of range; every input.
-/
import Derived.Test.Qxb6627641aWalkE
namespace Go.Proofs.Qxb6627641a
open Go.ChangeShapes Go.WideShapes Go.RowKit

set_option maxRecDepth 100000 in
set_option maxHeartbeats 1000000 in
theorem join_early (A0 A1 : Option Addr) (l0 c0 n c1 : Nat) (S : Nat → ByteArray) (Z : Nat → ZP) (k : Int) (s d : ByteArray) (w : World)
    (hl0 : l0 ≤ maxLen) (hl1 : n ≤ maxLen) (h0 : StrRow w A0 l0 S) (h1 : ZRow w A1 n Z) (hk : k < 0 ∨ (n : Int) < k) :
    Calls Try.prog 3 #[.slice A0 l0 c0, .slice A1 n c1, .int .i64 k, .string s, .string d] w (LawEnd w) := by
  have HK : Hid _ := hk
  clear hk
  go_enter Try.func3, Try.ntmps3
  go_wp2_with fail
  refine (bytesJ_any _ _ _ _ _ _ S Z _ _ _ _ hl0 hl1 h0 h1).mono ?_
  rintro e wa ⟨⟨b, rfl, hb⟩, ba⟩
  cases b
  · go_wp2_with fail
    go_ret; exact lawEnd rfl ba
  obtain ⟨hs0, hs1⟩ := hb rfl
  clear hb
  by_cases z1 : (1048576 : Int) < (s.size : Int)
  · go_wp2_with fail
    go_ret; exact lawEnd rfl ba
  by_cases z2 : (1048576 : Int) < (d.size : Int)
  · go_wp2_with fail
    go_ret; exact lawEnd rfl ba
  go_wp2_with fail
  refine (within_any _ _ _ _ _ _ S Z _ _ hl0 hl1 (h0.below ba) (h1.below ba)).mono ?_
  rintro e wb ⟨⟨b, rfl⟩, hw⟩
  replace hw := hw.symm
  subst hw
  cases b
  · go_wp2_with fail
    go_ret; exact lawEnd rfl ba
  by_cases hneg : k < 0
  · go_wp2_with fail
    go_ret; exact lawEnd rfl ba
  · have hbig : (n : Int) < k := by have := HK.out; omega
    go_wp2_with fail
    go_ret; exact lawEnd rfl ba

/-- EVERY INPUT: the law answers true; nothing that was there has turned. -/
theorem join_any (A0 A1 : Option Addr) (l0 c0 n c1 : Nat) (S : Nat → ByteArray) (Z : Nat → ZP) (k : Int) (s d : ByteArray) (w : World)
    (hl0 : l0 ≤ maxLen) (hl1 : n ≤ maxLen) (h0 : StrRow w A0 l0 S) (h1 : ZRow w A1 n Z) (hnil : A1 = none → n = 0) :
    Calls Try.prog 3 #[.slice A0 l0 c0, .slice A1 n c1, .int .i64 k, .string s, .string d] w (LawEnd w) := by
  by_cases h : 0 ≤ k ∧ k ≤ (n : Int)
  · obtain ⟨hk, hle⟩ := h
    obtain ⟨j, rfl⟩ := Int.eq_ofNat_of_zero_le hk
    exact join_main _ _ _ _ _ _ S Z _ _ _ _ hl0 hl1 h0 h1 hnil (by omega)
  · exact join_early _ _ _ _ _ _ S Z _ _ _ _ hl0 hl1 h0 h1 (by omega)

end Go.Proofs.Qxb6627641a
