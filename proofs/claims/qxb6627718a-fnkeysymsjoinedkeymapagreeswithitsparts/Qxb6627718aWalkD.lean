/-
  WALKS (4): FnKeysymsJoinedKeymapAgreesWithItsParts (function 3): no keysyms per key code; the early returns; every input.
-/
import Derived.Test.Qxb6627718aWalkC
namespace Go.Proofs.Qxb6627718a
open Go.ChangeShapes Go.WideShapes Go.RowKit

theorem cut_hi0 (A : Option Addr) (w : World) : (Instr.slice 24 (.slice A 0 0) (some (.int .i64 0)) none none).run Try.prog w = .ok (.slice A 0 0) w := by
  have h := cut_hi A 0 0 0 (Nat.le_refl _) w
  simpa [dropAt] using h

set_option maxRecDepth 100000 in
set_option maxHeartbeats 2000000 in
theorem law_zero (mn cut code : Int) (A : Option Addr) (c : Nat) (w : World)
    (m0 : 0 ≤ mn) (hm : mn ≤ 255) (d0 : 0 ≤ code) (hd : code ≤ 255) (k0 : 0 ≤ cut) (hk : cut ≤ 255 - mn) :
    Calls Try.prog 3 #[.int .u8 mn, .int .i64 0, .slice A 0 c, .int .i64 cut, .int .u8 code] w (LawEnd w) := by
  go_enter Try.func3, Try.ntmps3
  go_wp2_with fail
  refine (bytes_any _ _ _ _ _ _ _ _).mono ?_
  rintro e w' ⟨⟨b, rfl⟩, rfl⟩
  cases b
  · go_wp2_with fail
    go_ret; exact lawEnd rfl (Below.refl _ _)
  go_wp2_with fail
  refine (copy_any _ _ _ (fun _ => 0) _ (by omega) (fun _ => rfl) (.inl rfl)).mono ?_
  rintro e w1 ⟨R, rfl, hR, hRN, b1⟩
  have u0 := cut_lo' R 0 0 0 (Nat.le_refl _) 0 rfl
  have u1 := cut_hi0 R
  go_wp2_with fail
  refine (new_any _ _ _ _ _ _).mono ?_
  rintro e w2 ⟨t1, rfl, K1, b2⟩
  go_wp2_with fail
  refine (new_any _ _ _ _ _ _).mono ?_
  rintro e w3 ⟨t2, rfl, K2, b3⟩
  go_wp2_with fail
  refine (new_any _ _ _ _ _ _).mono ?_
  rintro e w4 ⟨t3, rfl, K3, b4⟩
  clear u0 u1
  have K14 := (K1.below b3).below b4
  have K24 := K2.below b4
  have B2 := b1.trans (b2.mono b1.size)
  have B3 := B2.trans (b3.mono B2.size)
  have B4 := B3.trans (b4.mono B3.size)
  clear K1 K2 hRN b1 b2 b3 b4 B2 B3 hR
  by_cases hlow : code < mn
  · go_wp2_with fail
    refine (keysyms_low _ _ _ _ _ _ _ _ K14 (by omega) (by omega) m0 hm d0 hd hlow).mono ?_
    rintro e w5 ⟨rfl, b5⟩
    have B5 := B4.trans (b5.mono B4.size)
    go_wp2_with fail
    refine (keysyms_low _ _ _ _ _ _ _ _ (K24.below b5) (by omega) (by omega) m0 hm d0 hd hlow).mono ?_
    rintro e w6 ⟨rfl, b6⟩
    have B6 := B5.trans (b6.mono B5.size)
    go_wp2_with fail
    refine (same_nil _).mono ?_
    rintro e w7 ⟨rfl, b7⟩
    have B7 := B6.trans (b7.mono B6.size)
    go_wp2_with fail
    refine (answer_zero _ _ _ _ _ _).mono ?_
    rintro e w8 ⟨rfl, b8⟩
    have B8 := B7.trans (b8.mono B7.size)
    go_wp2_with fail
    go_ret
    exact lawEnd rfl B8
  · go_wp2_with fail
    refine (keysyms_zero _ _ _ _ _ _ _ K14 m0 hm d0 hd (by omega)).mono ?_
    rintro e w5 ⟨rfl, b5⟩
    have B5 := B4.trans (b5.mono B4.size)
    by_cases hcut : code < mn + cut
    · go_wp2_with fail
      refine (keysyms_zero _ _ _ _ _ _ _ (K24.below b5) m0 hm d0 hd (by omega)).mono ?_
      rintro e w6 ⟨rfl, b6⟩
      have B6 := B5.trans (b6.mono B5.size)
      go_wp2_with fail
      refine (same_nil _).mono ?_
      rintro e w7 ⟨rfl, b7⟩
      have B7 := B6.trans (b7.mono B6.size)
      go_wp2_with fail
      refine (answer_zero _ _ _ _ _ _).mono ?_
      rintro e w8 ⟨rfl, b8⟩
      have B8 := B7.trans (b8.mono B7.size)
      go_wp2_with fail
      go_ret
      exact lawEnd rfl B8
    · go_wp2_with fail
      refine (keysyms_zero _ _ _ _ _ _ _ (K3.below b5) (by omega) (by omega) d0 hd (by omega)).mono ?_
      rintro e w6 ⟨rfl, b6⟩
      have B6 := B5.trans (b6.mono B5.size)
      go_wp2_with fail
      refine (same_nil _).mono ?_
      rintro e w7 ⟨rfl, b7⟩
      have B7 := B6.trans (b7.mono B6.size)
      go_wp2_with fail
      refine (answer_zero _ _ _ _ _ _).mono ?_
      rintro e w8 ⟨rfl, b8⟩
      have B8 := B7.trans (b8.mono B7.size)
      go_wp2_with fail
      go_ret
      exact lawEnd rfl B8

/-- WHEN THE LAW HAS NOTHING TO SAY. -/
def Early (mn p cut : Int) (L : Nat) : Prop :=
  (262144 : Int) < (L : Int) ∨ p < 0 ∨ 255 < p ∨ (p = 0 ∧ ¬ L = 0) ∨ (0 < p ∧ ¬ (L : Int) % p = 0) ∨ cut < 0 ∨ 255 - mn < cut ∨ (0 < p ∧ (L : Int) / p < cut)

set_option maxRecDepth 100000 in
set_option maxHeartbeats 2000000 in
theorem law_early (mn p cut code : Int) (A : Option Addr) (L c : Nat) (w : World) (m0 : 0 ≤ mn) (hm : mn ≤ 255) (hLm : L ≤ maxLen) (h : Early mn p cut L) :
    Calls Try.prog 3 #[.int .u8 mn, .int .i64 p, .slice A L c, .int .i64 cut, .int .u8 code] w (LawEnd w) := by
  unfold maxLen at hLm
  unfold Early at h
  have H : Hid _ := h
  clear h
  go_enter Try.func3, Try.ntmps3
  go_wp2_with fail
  refine (bytes_any _ _ _ _ _ _ _ _).mono ?_
  rintro e w' ⟨⟨b, rfl⟩, rfl⟩
  cases b
  · go_wp2_with fail
    go_ret; exact lawEnd rfl (Below.refl _ _)
  by_cases z1 : (262144 : Int) < (L : Int)
  · go_wp2_with fail
    go_ret; exact lawEnd rfl (Below.refl _ _)
  by_cases z2 : p < 0
  · go_wp2_with fail
    go_ret; exact lawEnd rfl (Below.refl _ _)
  by_cases z3 : 255 < p
  · go_wp2_with fail
    go_ret; exact lawEnd rfl (Below.refl _ _)
  by_cases z4 : p = 0
  · subst z4
    by_cases z5 : L = 0
    · subst z5
      by_cases z6 : cut < 0
      · go_wp2_with fail
        go_ret; exact lawEnd rfl (Below.refl _ _)
      · have z7 : 255 - mn < cut := by have h := H.out; omega
        go_wp2_with fail
        go_ret; exact lawEnd rfl (Below.refl _ _)
    · go_wp2_with fail
      go_ret; exact lawEnd rfl (Below.refl _ _)
  · have hp2 : (p == 0) = false := by simp; omega
    have hp3 : 0 < p := by omega
    by_cases z5 : (L : Int) % p = 0
    · by_cases z6 : cut < 0
      · go_wp2_with fail
        go_ret; exact lawEnd rfl (Below.refl _ _)
      by_cases z7 : 255 - mn < cut
      · go_wp2_with fail
        go_ret; exact lawEnd rfl (Below.refl _ _)
      have z8 : (L : Int) / p < cut := by
        have h := H.out
        rcases h with h | h | h | h | h | h | h | h
        · omega
        · omega
        · omega
        · omega
        · exact absurd z5 h.2
        · omega
        · omega
        · exact h.2
      have q0 : 0 ≤ (L : Int) / p := Int.ediv_nonneg (by omega) (by omega)
      have q1 : (L : Int) / p ≤ (L : Int) := Int.ediv_le_self _ (by omega)
      go_wp2_with fail
      go_ret; exact lawEnd rfl (Below.refl _ _)
    · have z6 : ((L : Int) % p == 0) = false := by simp [z5]
      go_wp2_with fail
      go_ret; exact lawEnd rfl (Below.refl _ _)

/-- EVERY INPUT: the law answers true; nothing that was there has turned. -/
theorem law_any (mn p cut code : Int) (A : Option Addr) (L c : Nat) (N : Nat → Int) (w : World) (hN : NumRow w A L N) (hnil : A = none → L = 0) (hLm : L ≤ maxLen)
    (m0 : 0 ≤ mn) (hm : mn ≤ 255) (d0 : 0 ≤ code) (hd : code ≤ 255) :
    Calls Try.prog 3 #[.int .u8 mn, .int .i64 p, .slice A L c, .int .i64 cut, .int .u8 code] w (LawEnd w) := by
  by_cases h : Early mn p cut L
  · exact law_early _ _ _ _ _ _ _ _ m0 hm hLm h
  · unfold Early at h
    simp only [not_or, not_and, Int.not_lt, Decidable.not_not] at h
    obtain ⟨h1, h2, h3, h4, h5, h6, h7, h8⟩ := h
    by_cases hp : p = 0
    · have hL := h4 hp
      subst hp hL
      exact law_zero _ _ _ _ _ _ m0 hm d0 hd h6 h7
    · have p0 : 0 < p := by omega
      have q0 : 0 ≤ (L : Int) / p := Int.ediv_nonneg (by omega) (by omega)
      have q1 : (L : Int) / p ≤ (L : Int) := Int.ediv_le_self _ (by omega)
      obtain ⟨cnt, hcnt⟩ := Int.eq_ofNat_of_zero_le q0
      obtain ⟨P, hP⟩ := Int.eq_ofNat_of_zero_le h2
      obtain ⟨K, hK⟩ := Int.eq_ofNat_of_zero_le h6
      have hKc : K ≤ cnt := by have := h8 p0; omega
      have hLc : L = cnt * P := len_eq (by rw [← hP]; exact hcnt) (by rw [← hP]; exact h5 p0)
      have hSL : K * P ≤ L := by rw [hLc]; exact Nat.mul_le_mul_right P hKc
      exact law_pos mn p cut code A L c cnt (K * P) P N w hN hnil (by omega) p0 (by omega) m0 hm d0 hd h6 h7 hcnt (h5 p0) (by have := h8 p0; omega) (prod_eq hK hP) hSL (by omega) hP

end Go.Proofs.Qxb6627718a
