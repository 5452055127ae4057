/-
  WALKS (7): FnProductInsertAnywhere (function 4): the early returns.
-/
import Derived.Test.Qxb6627641aPlainI
namespace Go.Proofs.Qxb6627641a
open Go.ChangeShapes Go.WideShapes Go.RowKit

set_option maxRecDepth 100000 in
set_option maxHeartbeats 4000000 in
theorem insert_early (A0 A1 : Option Addr) (l0 c0 n c1 : Nat) (S : Nat → ByteArray) (Z : Nat → ZP) (j : Int) (q : ZP) (s d : ByteArray) (w : World)
    (hl0 : l0 ≤ maxLen) (hl1 : n ≤ maxLen) (h0 : StrRow w A0 l0 S) (h1 : ZRow w A1 n Z) (hk : (s.size : Int) ≤ 1048576 ∧ (d.size : Int) ≤ 1048576 ∧ (q.st.size : Int) ≤ 1048576 ∧ (q.id.size : Int) ≤ 1048576 ∧ (q.en.size : Int) ≤ 1048576 ∧ (s.size : Int) + (d.size : Int) ≤ 1048576 ∧ (q.st.size : Int) + (q.id.size : Int) + (q.en.size : Int) ≤ 1048576 → j < 0 ∨ (n : Int) < j) :
    Calls Try.prog 4 #[.slice A0 l0 c0, .slice A1 n c1, .int .i64 j, .agg #[.string q.st, .string q.id, .string q.en, .pointer q.dp], .string s, .string d] w (LawEnd w) := by
  have HK : Hid _ := hk
  clear hk
  go_enter Try.func4, Try.ntmps4
  go_wp2_with fail
  obtain ⟨w0, hw0⟩ : ∃ w0, w0 = w.alloc (.cells #[.string q.st, .string q.id, .string q.en, .pointer q.dp] 43) := ⟨_, rfl⟩
  have B0 : Below w.heap.size w w0 := by rw [hw0]; exact (Below.refl _ _).alloc (Nat.le_refl _) _
  have X0 : Box w0 w.heap.size q := by rw [hw0]; exact Box.made w q 43
  rw [← hw0]
  clear hw0
  have S0 := h0.below B0
  have Z0 := h1.below B0
  clear h0 h1
  refine (bytesI_any _ _ _ _ _ _ S Z _ _ _ _ _ _ _ _ hl0 hl1 S0 Z0).mono ?_
  rintro e wa ⟨⟨b, rfl, hb⟩, ba⟩
  have Ba := B0.trans (ba.mono B0.size)
  obtain ⟨x0, x1, x2, x3⟩ := X0.below ba
  cases b
  · go_wp2_with fail
    go_ret; exact lawEnd rfl Ba
  obtain ⟨hs0, hs1⟩ := hb rfl
  clear hb
  by_cases z1 : (1048576 : Int) < (s.size : Int)
  · go_wp2_with fail
    go_ret; exact lawEnd rfl Ba
  by_cases z2 : (1048576 : Int) < (d.size : Int)
  · go_wp2_with fail
    go_ret; exact lawEnd rfl Ba
  by_cases z3 : (1048576 : Int) < (q.st.size : Int)
  · go_wp2_with fail
    go_ret; exact lawEnd rfl Ba
  by_cases z4 : (1048576 : Int) < (q.id.size : Int)
  · go_wp2_with fail
    go_ret; exact lawEnd rfl Ba
  by_cases z5 : (1048576 : Int) < (q.en.size : Int)
  · go_wp2_with fail
    go_ret; exact lawEnd rfl Ba
  by_cases z6 : (1048576 : Int) < (s.size : Int) + (d.size : Int)
  · go_wp2_with fail
    go_ret; exact lawEnd rfl Ba
  by_cases z7 : (1048576 : Int) < (q.st.size : Int) + (q.id.size : Int) + (q.en.size : Int)
  · go_wp2_with fail
    go_ret; exact lawEnd rfl Ba
  go_wp2_with fail
  refine (within_any _ _ _ _ _ _ S Z _ _ hl0 hl1 (S0.below ba) (Z0.below ba)).mono ?_
  rintro e wb ⟨⟨b, rfl⟩, hw⟩
  replace hw := hw.symm
  subst hw
  cases b
  · go_wp2_with fail
    go_ret; exact lawEnd rfl Ba
  by_cases hneg : j < 0
  · go_wp2_with fail
    go_ret; exact lawEnd rfl Ba
  · have hbig : (n : Int) < j := by have := HK.out ⟨by omega, by omega, by omega, by omega, by omega, by omega, by omega⟩; omega
    go_wp2_with fail
    go_ret; exact lawEnd rfl Ba

end Go.Proofs.Qxb6627641a
