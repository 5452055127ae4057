/-
  WALKS (5): FnProductJoinAtAnyCut (function 3).
-/
import Derived.Test.Qxb6627641aPlain
import Derived.Deep.RegionWith
import Derived.Deep.DrawnRows
namespace Go.Proofs.Qxb6627641a
open Go.ChangeShapes Go.WideShapes Go.RowKit
attribute [local go_sem ↓] Go.wp_at_zero Go.wp_at_succ

set_option maxRecDepth 100000 in
set_option maxHeartbeats 4000000 in
theorem join_main (A0 A1 : Option Addr) (l0 c0 n c1 : Nat) (S : Nat → ByteArray) (Z : Nat → ZP) (k : Nat) (s d : ByteArray) (w : World)
    (hl0 : l0 ≤ maxLen) (hl1 : n ≤ maxLen) (h0 : StrRow w A0 l0 S) (h1 : ZRow w A1 n Z) (hnil : A1 = none → n = 0) (hk : k ≤ n) :
    Calls Try.prog 3 #[.slice A0 l0 c0, .slice A1 n c1, .int .i64 (k : Int), .string s, .string d] w (LawEnd w) := by
  have HNIL : Hid _ := hnil
  clear hnil
  go_enter Try.func3, Try.ntmps3
  go_wp2_with fail
  refine (bytesJ_any _ _ _ _ _ _ S Z _ _ _ _ hl0 hl1 h0 h1).mono ?_
  rintro e wa ⟨⟨b, rfl, hb⟩, ba⟩
  cases b
  · go_wp2_with fail
    go_ret; exact lawEnd rfl ba
  obtain ⟨hs0, hs1⟩ := hb rfl
  clear hb
  by_cases z1 : (1048576 : Int) < (s.size : Int)
  · go_wp2_with fail
    go_ret; exact lawEnd rfl ba
  by_cases z2 : (1048576 : Int) < (d.size : Int)
  · go_wp2_with fail
    go_ret; exact lawEnd rfl ba
  go_wp2_with fail
  refine (within_any _ _ _ _ _ _ S Z _ _ hl0 hl1 (h0.below ba) (h1.below ba)).mono ?_
  rintro e wb ⟨⟨b, rfl⟩, hw⟩
  replace hw := hw.symm
  subst hw
  cases b
  · go_wp2_with fail
    go_ret; exact lawEnd rfl ba
  go_wp2_with fail
  refine (toEnts_any _ _ _ S _ hs0 (h0.below ba)).mono ?_
  rintro e w1 ⟨⟨Ae, le, ce, rfl⟩, bb⟩
  have b1 := ba.trans (bb.mono ba.size)
  clear ba bb
  go_wp2_with fail
  refine (toProducts_any _ _ _ Z _ hs1 HNIL.out (h1.below b1)).mono ?_
  rintro e w2 ⟨Ap, P, rfl, hP, hPZ, bc⟩
  have b2 := b1.trans (bc.mono b1.size)
  clear b1 bc
  have u0 := cut_lo Ap n n k hk
  have u1 := cut_hi Ap n n k hk
  go_wp2_with fail
  clear u0 u1
  obtain ⟨W, hW⟩ : ∃ W, W = ((w2.alloc (.cells #[.slice Ae le ce, .slice Ap n n] 32)).alloc (.cells #[.slice Ae le ce, .slice Ap k n] 32)).alloc (.cells #[.slice Ae le ce, .slice (dropAt Ap n k) (n - k) (n - k)] 32) := ⟨_, rfl⟩
  have b3 : Below w2.heap.size w2 W := by rw [hW]; exact (((Below.refl _ _).alloc (Nat.le_refl _) _).alloc (by simp) _).alloc (by simp; omega) _
  have q0 : W.cell? ⟨w2.heap.size + 1, 0, none⟩ = some (.slice Ae le ce) := by rw [hW]; simp [go_sem]
  have q1 : W.cell? ⟨w2.heap.size + 1, 1, none⟩ = some (.slice Ap k n) := by rw [hW]; simp [go_sem]
  have q2 : W.cell? ⟨w2.heap.size + 1 + 1, 0, none⟩ = some (.slice Ae le ce) := by rw [hW]; simp [go_sem]
  have q3 : W.cell? ⟨w2.heap.size + 1 + 1, 1, none⟩ = some (.slice (dropAt Ap n k) (n - k) (n - k)) := by rw [hW]; simp [go_sem]
  have sz : W.heap.size = w2.heap.size + 3 := by rw [hW]; simp
  rw [← hW]
  clear hW
  have BW := b2.trans (b3.mono b2.size)
  have PW := hP.below b3
  have ZW := h1.below BW
  have hZf : find Z s d n = find P s d n := (find_congr s d n hPZ).symm
  have hlaw := find_split P s d k n hk
  clear b2 b3 hP h1 h0
  have HPZ : Hid _ := hPZ
  have HZF : Hid _ := hZf
  clear hPZ hZf
  have Q0 : Hid _ := q0
  have Q1 : Hid _ := q1
  have Q2 : Hid _ := q2
  have Q3 : Hid _ := q3
  clear q0 q1 q2 q3
  cases hfh : find P s d k with
  | some i =>
    rw [hfh] at hlaw
    have HW1 : Hid _ := hlaw
    have HH : Hid _ := hfh
    have hi : i < k := find_lt hfh
    have hin : i < n := by omega
    clear hlaw hfh
    obtain ⟨r, hr⟩ : ∃ r, find (fun i => P (k + i)) s d (n - k) = r := ⟨_, rfl⟩
    have HT : Hid _ := hr
    clear hr
    refine (product_some _ _ _ _ _ _ P _ _ _ (by omega) PW i HW1.out).mono ?_
    rintro e w3 ⟨rfl, d3⟩
    have x0 := cell1 ((d3.cell (p := ⟨w2.heap.size + 1, 0, none⟩) (show w2.heap.size + 1 < W.heap.size by omega)).trans Q0.out)
    have x1 := cell1 ((d3.cell (p := ⟨w2.heap.size + 1, 1, none⟩) (show w2.heap.size + 1 < W.heap.size by omega)).trans Q1.out)
    have e3 := d3.alloc d3.size (.cells #[.string (P i).st, .string (P i).id, .string (P i).en, .pointer (P i).dp] 35)
    have X3 := Box.made w3 (P i) 35
    go_wp2_with fail
    clear x0 x1
    refine (product_some _ _ _ _ _ _ P _ _ _ (by omega) ((PW.below e3).take hk) i HH.out).mono ?_
    rintro e w4 ⟨rfl, d4⟩
    have g4 := e3.trans (d4.mono e3.size)
    have e4 := g4.alloc g4.size (.cells #[.string (P i).st, .string (P i).id, .string (P i).en, .pointer (P i).dp] 35)
    have X34 := (X3.below d4).alloc (.cells #[.string (P i).st, .string (P i).id, .string (P i).en, .pointer (P i).dp] 35)
    have X4 := Box.made w4 (P i) 35
    have y0 := cell1 ((g4.cell (p := ⟨w2.heap.size + 1 + 1, 0, none⟩) (show w2.heap.size + 1 + 1 < W.heap.size by omega)).trans Q2.out)
    have y1 := cell1 ((g4.cell (p := ⟨w2.heap.size + 1 + 1, 1, none⟩) (show w2.heap.size + 1 + 1 < W.heap.size by omega)).trans Q3.out)
    clear d3 e3 X3 d4 g4
    go_wp2_with fail
    clear y0 y1
    refine (product_any _ _ _ _ _ _ (fun i => P (k + i)) _ _ _ (by unfold maxLen; omega) ((PW.below e4).drop hk (Nat.le_refl _)) r HT.out).mono ?_
    rintro e w5 ⟨rfl, d5⟩
    have g5 := e4.trans (d5.mono e4.size)
    have e5 := g5.alloc g5.size (.cells #[.string (pick (fun i => P (k + i)) r).st, .string (pick (fun i => P (k + i)) r).id, .string (pick (fun i => P (k + i)) r).en, .pointer (pick (fun i => P (k + i)) r).dp] 35)
    have X35 := (X34.below d5).alloc (.cells #[.string (pick (fun i => P (k + i)) r).st, .string (pick (fun i => P (k + i)) r).id, .string (pick (fun i => P (k + i)) r).en, .pointer (pick (fun i => P (k + i)) r).dp] 35)
    have X45 := (X4.below d5).alloc (.cells #[.string (pick (fun i => P (k + i)) r).st, .string (pick (fun i => P (k + i)) r).id, .string (pick (fun i => P (k + i)) r).en, .pointer (pick (fun i => P (k + i)) r).dp] 35)
    have D5 := (PW.day i hin).below e5
    obtain ⟨m0, m1, m2, m3⟩ := X35
    obtain ⟨n0, n1, n2, n3⟩ := X45
    have X35 : Box _ _ (P i) := ⟨m0, m1, m2, m3⟩
    clear X34 X4 d5 g5 e4
    go_wp2_with fail
    clear m0 m1 m2 m3 n0 n1 n2 n3
    refine (same_any _ _ _ _ _ (P i).dd _ D5 D5).mono ?_
    rintro e w6 ⟨rfl, d6⟩
    have g6 := e5.trans (d6.mono e5.size)

    go_wp2_with fail
    refine (first_any _ _ _ Z _ _ _ hl1 (ZW.below g6)).mono ?_
    rintro e w7 ⟨he, hw⟩
    replace hw := hw.symm
    subst hw
    rw [HZF.out, HW1.out] at he
    simp only [idxOf] at he
    subst he
    obtain ⟨m0, m1, m2, m3⟩ := X35.below d6
    rcases ZW with ZW | ⟨zb, zo, rfl, hzc⟩
    · omega
    obtain ⟨a1, a2, a3, a4⟩ := HPZ.out (i) hin
    obtain ⟨t0, t1, t2, t3, t4⟩ := (hzc (i) hin).below g6
    rw [← a1] at t0
    rw [← a2] at t1
    rw [← a3] at t2
    rw [← a4] at t4
    have D6 := (D5.below d6).drew
    have T4 := t4.drew
    clear a1 a2 a3 a4 t4 hzc X35 d6 e5 PW
    go_wp2_with fail
    go_region_with (go_at_call 13; refine (sameZ_any _ _ _ _ _ (P i).dd _ D6 T4).mono ?_; rintro e w8 ⟨rfl, d8⟩)
    all_goals
      go_wp2_with fail
      go_ret
      exact ⟨rfl, (BW.trans (g6.mono BW.size)).drew.trans (d8.mono (Nat.le_trans BW.size g6.size))⟩
  | none =>
    cases hft : find (fun i => P (k + i)) s d (n - k) with
    | some i =>
      rw [hfh, hft] at hlaw
      have HW1 : Hid (find P s d n = some (k + i)) := hlaw
      have HH : Hid _ := hfh
      have HT : Hid _ := hft
      have hi : i < n - k := find_lt hft
      have hin : k + i < n := by omega
      clear hlaw hfh hft
      refine (product_some _ _ _ _ _ _ P _ _ _ (by omega) PW (k + i) HW1.out).mono ?_
      rintro e w3 ⟨rfl, d3⟩
      have x0 := cell1 ((d3.cell (p := ⟨w2.heap.size + 1, 0, none⟩) (show w2.heap.size + 1 < W.heap.size by omega)).trans Q0.out)
      have x1 := cell1 ((d3.cell (p := ⟨w2.heap.size + 1, 1, none⟩) (show w2.heap.size + 1 < W.heap.size by omega)).trans Q1.out)
      have e3 := d3.alloc d3.size (.cells #[.string (P (k + i)).st, .string (P (k + i)).id, .string (P (k + i)).en, .pointer (P (k + i)).dp] 35)
      have X3 := Box.made w3 (P (k + i)) 35
      go_wp2_with fail
      clear x0 x1
      refine (product_none _ _ _ _ _ _ P _ _ _ (by omega) ((PW.below e3).take hk) HH.out).mono ?_
      rintro e w4 ⟨rfl, d4⟩
      have g4 := e3.trans (d4.mono e3.size)
      have e4 := g4.alloc g4.size (.cells #[.string ⟨#[]⟩, .string ⟨#[]⟩, .string ⟨#[]⟩, .pointer none] 35)
      have X34 := (X3.below d4).alloc (.cells #[.string ⟨#[]⟩, .string ⟨#[]⟩, .string ⟨#[]⟩, .pointer none] 35)
      have y0 := cell1 ((g4.cell (p := ⟨w2.heap.size + 1 + 1, 0, none⟩) (show w2.heap.size + 1 + 1 < W.heap.size by omega)).trans Q2.out)
      have y1 := cell1 ((g4.cell (p := ⟨w2.heap.size + 1 + 1, 1, none⟩) (show w2.heap.size + 1 + 1 < W.heap.size by omega)).trans Q3.out)
      clear d3 e3 X3 d4 g4
      go_wp2_with fail
      clear y0 y1
      refine (product_some_at (P (k + i)) _ _ _ _ _ _ (fun i => P (k + i)) _ _ _ (by omega) ((PW.below e4).drop hk (Nat.le_refl _)) i HT.out rfl).mono ?_
      rintro e w5 ⟨rfl, d5⟩
      have g5 := e4.trans (d5.mono e4.size)
      have e5 := g5.alloc g5.size (.cells #[.string (P (k + i)).st, .string (P (k + i)).id, .string (P (k + i)).en, .pointer (P (k + i)).dp] 35)
      have X35 := (X34.below d5).alloc (.cells #[.string (P (k + i)).st, .string (P (k + i)).id, .string (P (k + i)).en, .pointer (P (k + i)).dp] 35)
      have X45 := Box.made w5 (P (k + i)) 35
      have D5 := (PW.day (k + i) hin).below e5
      obtain ⟨m0, m1, m2, m3⟩ := X35
      obtain ⟨n0, n1, n2, n3⟩ := X45
      have X35 : Box _ _ (P (k + i)) := ⟨m0, m1, m2, m3⟩
      clear X34 d5 g5 e4
      go_wp2_with fail
      clear m0 m1 m2 m3 n0 n1 n2 n3
      refine (same_any _ _ _ _ _ (P (k + i)).dd _ D5 D5).mono ?_
      rintro e w6 ⟨rfl, d6⟩
      have g6 := e5.trans (d6.mono e5.size)

      go_wp2_with fail
      refine (first_any _ _ _ Z _ _ _ hl1 (ZW.below g6)).mono ?_
      rintro e w7 ⟨he, hw⟩
      replace hw := hw.symm
      subst hw
      rw [HZF.out, HW1.out] at he
      simp only [idxOf] at he
      subst he
      obtain ⟨m0, m1, m2, m3⟩ := X35.below d6
      rcases ZW with ZW | ⟨zb, zo, rfl, hzc⟩
      · omega
      obtain ⟨a1, a2, a3, a4⟩ := HPZ.out (k + i) hin
      obtain ⟨t0, t1, t2, t3, t4⟩ := (hzc (k + i) hin).below g6
      rw [← a1] at t0
      rw [← a2] at t1
      rw [← a3] at t2
      rw [← a4] at t4
      have D6 := (D5.below d6).drew
      have T4 := t4.drew
      clear a1 a2 a3 a4 t4 hzc X35 d6 e5 PW
      go_wp2_with fail
      go_region_with (go_at_call 13; refine (sameZ_any _ _ _ _ _ (P (k + i)).dd _ D6 T4).mono ?_; rintro e w8 ⟨rfl, d8⟩)
      all_goals
        go_wp2_with fail
        go_ret
        exact ⟨rfl, (BW.trans (g6.mono BW.size)).drew.trans (d8.mono (Nat.le_trans BW.size g6.size))⟩
    | none =>
      rw [hfh, hft] at hlaw
      have HW1 : Hid (find P s d n = none) := hlaw
      have HH : Hid _ := hfh
      have HT : Hid _ := hft
      clear hlaw hfh hft
      refine (product_none _ _ _ _ _ _ P _ _ _ (by omega) PW HW1.out).mono ?_
      rintro e w3 ⟨rfl, d3⟩
      have x0 := cell1 ((d3.cell (p := ⟨w2.heap.size + 1, 0, none⟩) (show w2.heap.size + 1 < W.heap.size by omega)).trans Q0.out)
      have x1 := cell1 ((d3.cell (p := ⟨w2.heap.size + 1, 1, none⟩) (show w2.heap.size + 1 < W.heap.size by omega)).trans Q1.out)
      have e3 := d3.alloc d3.size (.cells #[.string ⟨#[]⟩, .string ⟨#[]⟩, .string ⟨#[]⟩, .pointer none] 35)
      have X3 := Box.made w3 zeroZ 35
      go_wp2_with fail
      clear x0 x1
      refine (product_none _ _ _ _ _ _ P _ _ _ (by omega) ((PW.below e3).take hk) HH.out).mono ?_
      rintro e w4 ⟨rfl, d4⟩
      have g4 := e3.trans (d4.mono e3.size)
      have e4 := g4.alloc g4.size (.cells #[.string ⟨#[]⟩, .string ⟨#[]⟩, .string ⟨#[]⟩, .pointer none] 35)
      have X34 := (X3.below d4).alloc (.cells #[.string ⟨#[]⟩, .string ⟨#[]⟩, .string ⟨#[]⟩, .pointer none] 35)
      have y0 := cell1 ((g4.cell (p := ⟨w2.heap.size + 1 + 1, 0, none⟩) (show w2.heap.size + 1 + 1 < W.heap.size by omega)).trans Q2.out)
      have y1 := cell1 ((g4.cell (p := ⟨w2.heap.size + 1 + 1, 1, none⟩) (show w2.heap.size + 1 + 1 < W.heap.size by omega)).trans Q3.out)
      clear d3 e3 X3 d4 g4
      go_wp2_with fail
      clear y0 y1
      refine (product_none _ _ _ _ _ _ (fun i => P (k + i)) _ _ _ (by omega) ((PW.below e4).drop hk (Nat.le_refl _)) HT.out).mono ?_
      rintro e w5 ⟨rfl, d5⟩
      have g5 := e4.trans (d5.mono e4.size)
      have e5 := g5.alloc g5.size (.cells #[.string ⟨#[]⟩, .string ⟨#[]⟩, .string ⟨#[]⟩, .pointer none] 35)
      have X35 := (X34.below d5).alloc (.cells #[.string ⟨#[]⟩, .string ⟨#[]⟩, .string ⟨#[]⟩, .pointer none] 35)
      clear X34 d5 g5 e4
      go_wp2_with fail
      refine (first_any _ _ _ Z _ _ _ hl1 (ZW.below e5)).mono ?_
      rintro e w7 ⟨he, hw⟩
      replace hw := hw.symm
      subst hw
      rw [HZF.out, HW1.out] at he
      simp only [idxOf] at he
      subst he
      obtain ⟨m0, m1, m2, m3⟩ := X35
      simp only [zeroZ] at m0 m1 m2 m3
      go_wp2_with fail
      refine (isZero_any _).mono ?_
      rintro e w8 ⟨rfl, d8⟩
      go_wp2_with fail
      go_ret
      exact ⟨rfl, (BW.trans (e5.mono BW.size)).trans (d8.mono (Nat.le_trans BW.size e5.size))⟩

end Go.Proofs.Qxb6627641a
