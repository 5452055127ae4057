/-
  WALKS (8): FnProductInsertAnywhere (function 4): the road through.
-/
import Derived.Test.Qxb6627641aPlainI
namespace Go.Proofs.Qxb6627641a
open Go.ChangeShapes Go.WideShapes Go.RowKit

set_option maxRecDepth 100000 in
set_option maxHeartbeats 4000000 in
theorem insert_main (A0 A1 : Option Addr) (l0 c0 n c1 : Nat) (S : Nat → ByteArray) (Z : Nat → ZP) (j : Nat) (q : ZP) (s d : ByteArray) (w : World)
    (hl0 : l0 ≤ maxLen) (hl1 : n ≤ maxLen) (h0 : StrRow w A0 l0 S) (h1 : ZRow w A1 n Z) (hnil : A1 = none → n = 0) (hq : DayIs w q.dp q.dd) (hj : j ≤ n) (z1 : (s.size : Int) ≤ 1048576) (z2 : (d.size : Int) ≤ 1048576) (z3 : (q.st.size : Int) ≤ 1048576) (z4 : (q.id.size : Int) ≤ 1048576) (z5 : (q.en.size : Int) ≤ 1048576)
    (z6 : (s.size : Int) + (d.size : Int) ≤ 1048576) (z7 : (q.st.size : Int) + (q.id.size : Int) + (q.en.size : Int) ≤ 1048576) :
    Calls Try.prog 4 #[.slice A0 l0 c0, .slice A1 n c1, .int .i64 (j : Int), .agg #[.string q.st, .string q.id, .string q.en, .pointer q.dp], .string s, .string d] w (LawEnd w) := by
  have HNIL : Hid _ := hnil
  clear hnil
  go_enter Try.func4, Try.ntmps4
  go_wp2_with fail
  obtain ⟨w0, hw0⟩ : ∃ w0, w0 = w.alloc (.cells #[.string q.st, .string q.id, .string q.en, .pointer q.dp] 43) := ⟨_, rfl⟩
  have B0 : Below w.heap.size w w0 := by rw [hw0]; exact (Below.refl _ _).alloc (Nat.le_refl _) _
  have X0 : Box w0 w.heap.size q := by rw [hw0]; exact Box.made w q 43
  rw [← hw0]
  clear hw0
  have S0 := h0.below B0
  have Z0 := h1.below B0
  have Q0 := hq.below B0
  clear h0 h1 hq
  refine (bytesI_any _ _ _ _ _ _ S Z _ _ _ _ _ _ _ _ hl0 hl1 S0 Z0).mono ?_
  rintro e wa ⟨⟨b, rfl, hb⟩, ba⟩
  have Ba := B0.trans (ba.mono B0.size)
  obtain ⟨x0, x1, x2, x3⟩ := X0.below ba
  cases b
  · go_wp2_with fail
    go_ret; exact lawEnd rfl Ba
  obtain ⟨hs0, hs1⟩ := hb rfl
  clear hb
  go_wp2_with fail
  refine (within_any _ _ _ _ _ _ S Z _ _ hl0 hl1 (S0.below ba) (Z0.below ba)).mono ?_
  rintro e wb ⟨⟨b, rfl⟩, hw⟩
  replace hw := hw.symm
  subst hw
  cases b
  · go_wp2_with fail
    go_ret; exact lawEnd rfl Ba
  clear x0 x1 x2 x3
  go_wp2_with fail
  refine (toEnts_any _ _ _ S _ hs0 (S0.below ba)).mono ?_
  rintro e w1 ⟨⟨Ae, le, ce, rfl⟩, bb⟩
  have b1 := ba.trans (bb.mono ba.size)
  clear ba bb Ba
  go_wp2_with fail
  refine (toProducts_any _ _ _ Z _ hs1 HNIL.out (Z0.below b1)).mono ?_
  rintro e w2 ⟨Ap, P, rfl, hP, hPZ, bc⟩
  have b2 := b1.trans (bc.mono b1.size)
  clear b1 bc
  obtain ⟨x0, x1, x2, x3⟩ := X0.below b2
  go_wp2_with fail
  refine (toProduct_any _ _ _ _ q.dd _ (Q0.below b2)).mono ?_
  rintro e w3 ⟨dp, rfl, hdp, _, bd⟩
  have b3 := b2.trans (bd.mono b2.size)
  have P3 := hP.below bd
  clear b2 bd x0 x1 x2 x3 hP
  have hmk := mk_prod 0 (n + 1) (by omega) (by omega)
  rw [show ((n + 1 : Nat) : Int) = (n : Int) + 1 by omega, show ((0 : Nat) : Int) = 0 by rfl] at hmk
  go_wp2_with fail
  clear hmk
  obtain ⟨V, hV⟩ : ∃ V, V = w3.alloc (.cells #[.string q.st, .string q.id, .string q.en, .pointer dp] 35) := ⟨_, rfl⟩
  have bV : Below w3.heap.size w3 V := by rw [hV]; exact (Below.refl _ _).alloc (Nat.le_refl _) _
  have sV : V.heap.size = w3.heap.size + 1 := by rw [hV]; simp
  have X4 : Box V w3.heap.size ⟨q.st, q.id, q.en, dp, q.dd⟩ := by rw [hV]; exact Box.made w3 ⟨q.st, q.id, q.en, dp, q.dd⟩ 35
  have b4 := b3.trans (bV.mono b3.size)
  have P4 := P3.below bV
  have D4 := hdp.below bV
  rw [← hV]
  clear hV bV P3 b3 hdp
  obtain ⟨i0, hi0, hz0, hz1, hz2⟩ := info_parts Try.info35
  have O0 := World.ownsRow_made (base := w3.heap.size + 1) (e := 35) (size := 4) V (prodZero (n + 1)) (n + 1) (by omega) (by unfold maxLen; omega) (prodZero_size _)
  rw [sV] at O0
  have G0 : Below (w3.heap.size + 1) V (V.alloc (.cells (prodZero (n + 1)) 35)) := (Below.refl _ _).alloc (by omega) _
  have SV : Hid _ := sV
  clear sV
  go_loopw [16, 17] (fun v i wx => ∃ k : Nat, k ≤ j ∧ i = .int .i64 k ∧ v = .slice (some ⟨w3.heap.size + 1, 0, none⟩) k (n + 1) ∧
      wx.ownsRow (w3.heap.size + 1) 35 4 (.slice (some ⟨w3.heap.size + 1, 0, none⟩) k (n + 1)) k (flat (insAt P ⟨q.st, q.id, q.en, dp, q.dd⟩ j) k) ∧ Below (w3.heap.size + 1) V wx) (fun _ i _ => j - (intOf i).toNat)
  case atStart => exact ⟨0, Nat.zero_le _, rfl, rfl, O0, G0⟩
  case round =>
    obtain ⟨k, hk, rfl, rfl, hown, hbel⟩ := hrel
    clear O0 G0
    have hwr := hbel.size
    by_cases hlt : k < j
    · rcases P4 with P4 | ⟨pb, po, rfl, hc⟩
      · omega
      obtain ⟨c0, c1, c2, c3, _⟩ := (hc k (by omega)).below (by rw [SV.out]; exact hbel)
      clear hc
      have hown1 := hown.alloc (.cells #[.string (P k).st, .string (P k).id, .string (P k).en, .pointer (P k).dp] 35)
      go_wp2_with (at_builtin; refine wpList_append_fits _ rfl (.tmp 126) (.tmp 131) 28 rfl (w3.heap.size + 1) 35 i0 4 Try.underlying28 hi0 hz1 (w3.heap.size + 1) k (n + 1) _ rfl hown1 ⟨wr.heap.size, 0, none⟩ 1 1 [.string (P k).st, .string (P k).id, .string (P k).en, .pointer (P k).dp] rfl rfl (news4 _ _ _ _ _ _) (oneCell4 (P k)) (by omega) ?_; intro wn hown2 hgrow)
      have hown3 := hown2
      rw [flat_step (insAt_lo hlt)] at hown3
      have hB : w3.heap.size + 1 ≤ wr.heap.size := by have := SV.out; omega
      have hbel3 := (hbel.alloc hB _).grown hgrow (by simp; omega) (fun k e => by cases e; exact Nat.le_refl _)
      clear hown hown1 hown2 hgrow hbel
      go_roundw
      case rel => exact ⟨k + 1, by omega, by go_num, rfl, hown3, hbel3⟩
      case measure => simp [intOf]; omega
    · have e : k = j := by omega
      subst e
      obtain ⟨m0, m1, m2, m3⟩ := X4.below (by rw [SV.out]; exact hbel)
      simp only at m0 m1 m2 m3
      have hown1 := hown.alloc (.cells #[.string q.st, .string q.id, .string q.en, .pointer dp] 35)
      have hB : w3.heap.size + 1 ≤ wr.heap.size := by have := SV.out; omega
      go_wp2_with (at_builtin; refine wpList_append_fits _ rfl (.tmp 133) (.tmp 135) 28 rfl (w3.heap.size + 1) 35 i0 4 Try.underlying28 hi0 hz1 (w3.heap.size + 1) k (n + 1) _ rfl hown1 ⟨wr.heap.size, 0, none⟩ 1 1 [.string q.st, .string q.id, .string q.en, .pointer dp] rfl rfl (news4 _ _ _ _ _ _) (oneCell4 ⟨q.st, q.id, q.en, dp, q.dd⟩) (by omega) ?_; intro wn hown2 hgrow)
      have hown3 := hown2
      rw [flat_step (P := insAt P ⟨q.st, q.id, q.en, dp, q.dd⟩ k) (z := ⟨q.st, q.id, q.en, dp, q.dd⟩) insAt_at] at hown3
      have hbel3 := (hbel.alloc hB _).grown hgrow (by simp; omega) (fun k e => by cases e; exact Nat.le_refl _)
      clear hown hown1 hown2 hgrow hbel m0 m1 m2 m3
      go_loopw [16, 18] (fun v i wx => ∃ m : Nat, k ≤ m ∧ m ≤ n ∧ i = .int .i64 m ∧ v = .slice (some ⟨w3.heap.size + 1, 0, none⟩) (m + 1) (n + 1) ∧
          wx.ownsRow (w3.heap.size + 1) 35 4 (.slice (some ⟨w3.heap.size + 1, 0, none⟩) (m + 1) (n + 1)) (m + 1) (flat (insAt P ⟨q.st, q.id, q.en, dp, q.dd⟩ k) (m + 1)) ∧ Below (w3.heap.size + 1) V wx) (fun _ i _ => n - (intOf i).toNat)
      case atStart => exact ⟨k, Nat.le_refl _, hj, rfl, rfl, hown3, hbel3⟩
      case round =>
        obtain ⟨m, hkm, hm, rfl, rfl, hown, hbel⟩ := hrel
        clear hown3 hbel3 hB hwr
        have hwr := hbel.size
        have hB : w3.heap.size + 1 ≤ wr.heap.size := by have := SV.out; omega
        by_cases hlt2 : m < n
        · rcases P4 with P4 | ⟨pb, po, rfl, hc⟩
          · omega
          obtain ⟨c0, c1, c2, c3, _⟩ := (hc m (by omega)).below (by rw [SV.out]; exact hbel)
          clear hc
          have hown1 := hown.alloc (.cells #[.string (P m).st, .string (P m).id, .string (P m).en, .pointer (P m).dp] 35)
          go_wp2_with (at_builtin; refine wpList_append_fits _ rfl (.tmp 144) (.tmp 149) 28 rfl (w3.heap.size + 1) 35 i0 4 Try.underlying28 hi0 hz1 (w3.heap.size + 1) (m + 1) (n + 1) _ rfl hown1 ⟨wr.heap.size, 0, none⟩ 1 1 [.string (P m).st, .string (P m).id, .string (P m).en, .pointer (P m).dp] rfl rfl (news4 _ _ _ _ _ _) (oneCell4 (P m)) (by omega) ?_; intro wn hown2 hgrow)
          have hown3 := hown2
          rw [flat_step (insAt_hi hkm)] at hown3
          have hbel3 := (hbel.alloc hB _).grown hgrow (by simp; omega) (fun k e => by cases e; exact Nat.le_refl _)
          clear hown hown1 hown2 hgrow hbel
          go_roundw
          case rel => exact ⟨m + 1, by omega, by omega, by go_num, rfl, hown3, hbel3⟩
          case measure => simp [intOf]; omega
        · have e : m = n := by omega
          subst e
          have u0 := cut_lo Ap m m k hj
          go_wp2_with fail
          clear u0
          have fV : Below V.heap.size V wr := by rw [SV.out]; exact hbel
          have Pr := P4.below fV
          have Dr := D4.below fV
          have Rr := zrow_of_owns hown (days_ins hj Pr Dr)
          have br := b4.trans (fV.mono b4.size)
          obtain ⟨W, hW⟩ : ∃ W, W = ((wr.alloc (.cells #[.slice Ae le ce, .slice Ap m m] 32)).alloc (.cells #[.slice Ae le ce, .slice Ap k m] 32)).alloc (.cells #[.slice Ae le ce, .slice (some ⟨w3.heap.size + 1, 0, none⟩) (m + 1) (m + 1)] 32) := ⟨_, rfl⟩
          have bW : Below wr.heap.size wr W := by rw [hW]; exact (((Below.refl _ _).alloc (Nat.le_refl _) _).alloc (by simp) _).alloc (by simp; omega) _
          have q0 : W.cell? ⟨wr.heap.size + 1, 0, none⟩ = some (.slice Ae le ce) := by rw [hW]; simp [go_sem]
          have q1 : W.cell? ⟨wr.heap.size + 1, 1, none⟩ = some (.slice Ap k m) := by rw [hW]; simp [go_sem]
          have q2 : W.cell? ⟨wr.heap.size + 1 + 1, 0, none⟩ = some (.slice Ae le ce) := by rw [hW]; simp [go_sem]
          have q3 : W.cell? ⟨wr.heap.size + 1 + 1, 1, none⟩ = some (.slice (some ⟨w3.heap.size + 1, 0, none⟩) (m + 1) (m + 1)) := by rw [hW]; simp [go_sem]
          have sz : W.heap.size = wr.heap.size + 3 := by rw [hW]; simp
          rw [← hW]
          clear hW
          have b0W := br.trans (bW.mono br.size)
          have BW := B0.trans (b0W.mono B0.size)
          have PW := Pr.below bW
          have RW := Rr.below bW
          have DW := Dr.below bW
          have XW := X0.below b0W
          have QW := Q0.below b0W
          clear fV Pr Dr Rr br bW b0W hown hbel hB hwr P4 D4 X4 X0 Q0 b4 B0 S0 Z0 SV hi0 hz0 hz1 hz2
          have Q0 : Hid _ := q0
          have Q1 : Hid _ := q1
          have Q2 : Hid _ := q2
          have Q3 : Hid _ := q3
          clear q0 q1 q2 q3
          cases hh : hits q.st q.id s d with
          | true =>
            have HITS : Hid _ := hh
            obtain ⟨t1, t2⟩ := hits_true hh
            clear hh
            cases hfh : find P s d k with
            | some i =>
              have HH : Hid _ := hfh
              obtain ⟨hfa, hqi, hik⟩ := ins_hit_some (q := ⟨q.st, q.id, q.en, dp, q.dd⟩) hj hfh
              have HA : Hid _ := hfa
              have HQ : Hid _ := hqi
              clear hfh hfa hqi
              have him : i < m := by omega
              obtain ⟨r, hr⟩ : ∃ r, find P s d m = r := ⟨_, rfl⟩
              have HB : Hid _ := hr
              clear hr
              refine (product_any _ _ _ _ _ _ P _ _ _ (by unfold maxLen; omega) PW r HB.out).mono ?_
              rintro e wc3 ⟨rfl, d3⟩
              have x0 := cell1 ((d3.cell (p := ⟨wr.heap.size + 1, 0, none⟩) (show wr.heap.size + 1 < W.heap.size by omega)).trans Q0.out)
              have x1 := cell1 ((d3.cell (p := ⟨wr.heap.size + 1, 1, none⟩) (show wr.heap.size + 1 < W.heap.size by omega)).trans Q1.out)
              have e3 := d3.alloc d3.size (.cells #[.string (pick P r).st, .string (pick P r).id, .string (pick P r).en, .pointer (pick P r).dp] 35)
              go_wp2_with fail
              clear x0 x1
              refine (product_some _ _ _ _ _ _ P _ _ _ (by omega) ((PW.below e3).take hj) i HH.out).mono ?_
              rintro e wc4 ⟨rfl, d4⟩
              have g4 := e3.trans (d4.mono e3.size)
              have e4 := g4.alloc g4.size (.cells #[.string (P i).st, .string (P i).id, .string (P i).en, .pointer (P i).dp] 35)
              have X4 := Box.made wc4 (P i) 35
              have y0 := cell1 ((g4.cell (p := ⟨wr.heap.size + 1 + 1, 0, none⟩) (show wr.heap.size + 1 + 1 < W.heap.size by omega)).trans Q2.out)
              have y1 := cell1 ((g4.cell (p := ⟨wr.heap.size + 1 + 1, 1, none⟩) (show wr.heap.size + 1 + 1 < W.heap.size by omega)).trans Q3.out)
              clear d3 e3 d4 g4
              go_wp2_with fail
              clear y0 y1
              refine (product_some_at (P i) _ _ _ _ _ _ (insAt P ⟨q.st, q.id, q.en, dp, q.dd⟩ k) _ _ _ (by omega) (RW.below e4) i HA.out HQ.out).mono ?_
              rintro e wc5 ⟨rfl, d5⟩
              have g5 := e4.trans (d5.mono e4.size)
              have e5 := g5.alloc g5.size (.cells #[.string (P i).st, .string (P i).id, .string (P i).en, .pointer (P i).dp] 35)
              have X45 := (X4.below d5).alloc (.cells #[.string (P i).st, .string (P i).id, .string (P i).en, .pointer (P i).dp] 35)
              have X55 := Box.made wc5 (P i) 35
              have D5 := (PW.day i him).below e5
              obtain ⟨m0, m1, m2, m3⟩ := X45
              obtain ⟨n0, n1, n2, n3⟩ := X55
              obtain ⟨o0, o1, o2, o3⟩ := XW.below e5
              clear g5 d5 e4 X4
              go_wp2_with fail
              clear m0 m1 m2 m3 n0 n1 n2 n3 o0 o1 o2 o3
              refine (same_any _ _ _ _ _ (P i).dd _ D5 D5).mono ?_
              rintro e wc6 ⟨rfl, d6⟩
              go_wp2_with fail
              go_ret
              exact ⟨rfl, (BW.trans (e5.mono BW.size)).trans (d6.mono (Nat.le_trans BW.size e5.size))⟩
            | none =>
              have HH : Hid _ := hfh
              obtain ⟨hfa, hqi⟩ := ins_hit_none (q := ⟨q.st, q.id, q.en, dp, q.dd⟩) hj hfh HITS.out
              have HA : Hid _ := hfa
              have HQ : Hid _ := hqi
              clear hfh hfa hqi
              obtain ⟨r, hr⟩ : ∃ r, find P s d m = r := ⟨_, rfl⟩
              have HB : Hid _ := hr
              clear hr
              refine (product_any _ _ _ _ _ _ P _ _ _ (by unfold maxLen; omega) PW r HB.out).mono ?_
              rintro e wc3 ⟨rfl, d3⟩
              have x0 := cell1 ((d3.cell (p := ⟨wr.heap.size + 1, 0, none⟩) (show wr.heap.size + 1 < W.heap.size by omega)).trans Q0.out)
              have x1 := cell1 ((d3.cell (p := ⟨wr.heap.size + 1, 1, none⟩) (show wr.heap.size + 1 < W.heap.size by omega)).trans Q1.out)
              have e3 := d3.alloc d3.size (.cells #[.string (pick P r).st, .string (pick P r).id, .string (pick P r).en, .pointer (pick P r).dp] 35)
              go_wp2_with fail
              clear x0 x1
              refine (product_none _ _ _ _ _ _ P _ _ _ (by omega) ((PW.below e3).take hj) HH.out).mono ?_
              rintro e wc4 ⟨rfl, d4⟩
              have g4 := e3.trans (d4.mono e3.size)
              have e4 := g4.alloc g4.size (.cells #[.string ⟨#[]⟩, .string ⟨#[]⟩, .string ⟨#[]⟩, .pointer none] 35)
              have y0 := cell1 ((g4.cell (p := ⟨wr.heap.size + 1 + 1, 0, none⟩) (show wr.heap.size + 1 + 1 < W.heap.size by omega)).trans Q2.out)
              have y1 := cell1 ((g4.cell (p := ⟨wr.heap.size + 1 + 1, 1, none⟩) (show wr.heap.size + 1 + 1 < W.heap.size by omega)).trans Q3.out)
              clear d3 e3 d4 g4
              go_wp2_with fail
              clear y0 y1
              refine (product_some_at ⟨q.st, q.id, q.en, dp, q.dd⟩ _ _ _ _ _ _ (insAt P ⟨q.st, q.id, q.en, dp, q.dd⟩ k) _ _ _ (by omega) (RW.below e4) k HA.out HQ.out).mono ?_
              rintro e wc5 ⟨rfl, d5⟩
              have g5 := e4.trans (d5.mono e4.size)
              have e5 := g5.alloc g5.size (.cells #[.string q.st, .string q.id, .string q.en, .pointer dp] 35)
              have X55 := Box.made wc5 ⟨q.st, q.id, q.en, dp, q.dd⟩ 35
              have D5 := DW.below e5
              have F5 := QW.below e5
              obtain ⟨n0, n1, n2, n3⟩ := X55
              obtain ⟨o0, o1, o2, o3⟩ := XW.below e5
              simp only at n0 n1 n2 n3
              clear g5 d5 e4
              go_wp2_with fail
              clear n0 n1 n2 n3 o0 o1 o2 o3
              refine (sameZ_any _ _ _ _ _ q.dd _ D5 F5).mono ?_
              rintro e wc6 ⟨rfl, d6⟩
              go_wp2_with fail
              go_ret
              exact ⟨rfl, (BW.trans (e5.mono BW.size)).trans (d6.mono (Nat.le_trans BW.size e5.size))⟩
          | false =>
            have HITS : Hid _ := hh
            have hmiss := ins_miss (P := P) (q := ⟨q.st, q.id, q.en, dp, q.dd⟩) hj hh
            clear hh
            rcases hmiss with ⟨i, i', hfb, hfa, hqi, him⟩ | ⟨hfb, hfa⟩
            · skip
              have HB : Hid _ := hfb
              have HA : Hid _ := hfa
              have HQ : Hid _ := hqi
              clear hfb hfa hqi
              obtain ⟨r, hr⟩ : ∃ r, find P s d k = r := ⟨_, rfl⟩
              have HH : Hid _ := hr
              clear hr
              refine (product_some _ _ _ _ _ _ P _ _ _ (by omega) PW i HB.out).mono ?_
              rintro e wc3 ⟨rfl, d3⟩
              have x0 := cell1 ((d3.cell (p := ⟨wr.heap.size + 1, 0, none⟩) (show wr.heap.size + 1 < W.heap.size by omega)).trans Q0.out)
              have x1 := cell1 ((d3.cell (p := ⟨wr.heap.size + 1, 1, none⟩) (show wr.heap.size + 1 < W.heap.size by omega)).trans Q1.out)
              have e3 := d3.alloc d3.size (.cells #[.string (P i).st, .string (P i).id, .string (P i).en, .pointer (P i).dp] 35)
              have X3 := Box.made wc3 (P i) 35
              go_wp2_with fail
              clear x0 x1
              refine (product_any _ _ _ _ _ _ P _ _ _ (by unfold maxLen; omega) ((PW.below e3).take hj) r HH.out).mono ?_
              rintro e wc4 ⟨rfl, d4⟩
              have g4 := e3.trans (d4.mono e3.size)
              have e4 := g4.alloc g4.size (.cells #[.string (pick P r).st, .string (pick P r).id, .string (pick P r).en, .pointer (pick P r).dp] 35)
              have X34 := (X3.below d4).alloc (.cells #[.string (pick P r).st, .string (pick P r).id, .string (pick P r).en, .pointer (pick P r).dp] 35)
              have y0 := cell1 ((g4.cell (p := ⟨wr.heap.size + 1 + 1, 0, none⟩) (show wr.heap.size + 1 + 1 < W.heap.size by omega)).trans Q2.out)
              have y1 := cell1 ((g4.cell (p := ⟨wr.heap.size + 1 + 1, 1, none⟩) (show wr.heap.size + 1 + 1 < W.heap.size by omega)).trans Q3.out)
              clear d3 e3 d4 g4 X3
              go_wp2_with fail
              clear y0 y1
              refine (product_some_at (P i) _ _ _ _ _ _ (insAt P ⟨q.st, q.id, q.en, dp, q.dd⟩ k) _ _ _ (by omega) (RW.below e4) i' HA.out HQ.out).mono ?_
              rintro e wc5 ⟨rfl, d5⟩
              have g5 := e4.trans (d5.mono e4.size)
              have e5 := g5.alloc g5.size (.cells #[.string (P i).st, .string (P i).id, .string (P i).en, .pointer (P i).dp] 35)
              have X35 := (X34.below d5).alloc (.cells #[.string (P i).st, .string (P i).id, .string (P i).en, .pointer (P i).dp] 35)
              have X55 := Box.made wc5 (P i) 35
              have D5 := (PW.day i him).below e5
              obtain ⟨m0, m1, m2, m3⟩ := X35
              obtain ⟨n0, n1, n2, n3⟩ := X55
              obtain ⟨o0, o1, o2, o3⟩ := XW.below e5
              clear g5 d5 e4 X34
              by_cases t1 : q.st.toList = s.toList
              · have t2 := hits_false HITS.out t1
                go_wp2_with fail
                clear m0 m1 m2 m3 n0 n1 n2 n3 o0 o1 o2 o3
                refine (same_any _ _ _ _ _ (P i).dd _ D5 D5).mono ?_
                rintro e wc6 ⟨rfl, d6⟩
                go_wp2_with fail
                go_ret
                exact ⟨rfl, (BW.trans (e5.mono BW.size)).trans (d6.mono (Nat.le_trans BW.size e5.size))⟩
              · have t2 : (q.st.toList == s.toList) = false := by simpa using t1
                go_wp2_with fail
                clear m0 m1 m2 m3 n0 n1 n2 n3 o0 o1 o2 o3
                refine (same_any _ _ _ _ _ (P i).dd _ D5 D5).mono ?_
                rintro e wc6 ⟨rfl, d6⟩
                go_wp2_with fail
                go_ret
                exact ⟨rfl, (BW.trans (e5.mono BW.size)).trans (d6.mono (Nat.le_trans BW.size e5.size))⟩
            · skip
              have HB : Hid _ := hfb
              have HA : Hid _ := hfa
              clear hfb hfa
              obtain ⟨r, hr⟩ : ∃ r, find P s d k = r := ⟨_, rfl⟩
              have HH : Hid _ := hr
              clear hr
              refine (product_none _ _ _ _ _ _ P _ _ _ (by omega) PW HB.out).mono ?_
              rintro e wc3 ⟨rfl, d3⟩
              have x0 := cell1 ((d3.cell (p := ⟨wr.heap.size + 1, 0, none⟩) (show wr.heap.size + 1 < W.heap.size by omega)).trans Q0.out)
              have x1 := cell1 ((d3.cell (p := ⟨wr.heap.size + 1, 1, none⟩) (show wr.heap.size + 1 < W.heap.size by omega)).trans Q1.out)
              have e3 := d3.alloc d3.size (.cells #[.string ⟨#[]⟩, .string ⟨#[]⟩, .string ⟨#[]⟩, .pointer none] 35)
              have X3 := Box.made wc3 zeroZ 35
              go_wp2_with fail
              clear x0 x1
              refine (product_any _ _ _ _ _ _ P _ _ _ (by unfold maxLen; omega) ((PW.below e3).take hj) r HH.out).mono ?_
              rintro e wc4 ⟨rfl, d4⟩
              have g4 := e3.trans (d4.mono e3.size)
              have e4 := g4.alloc g4.size (.cells #[.string (pick P r).st, .string (pick P r).id, .string (pick P r).en, .pointer (pick P r).dp] 35)
              have X34 := (X3.below d4).alloc (.cells #[.string (pick P r).st, .string (pick P r).id, .string (pick P r).en, .pointer (pick P r).dp] 35)
              have y0 := cell1 ((g4.cell (p := ⟨wr.heap.size + 1 + 1, 0, none⟩) (show wr.heap.size + 1 + 1 < W.heap.size by omega)).trans Q2.out)
              have y1 := cell1 ((g4.cell (p := ⟨wr.heap.size + 1 + 1, 1, none⟩) (show wr.heap.size + 1 + 1 < W.heap.size by omega)).trans Q3.out)
              clear d3 e3 d4 g4 X3
              go_wp2_with fail
              clear y0 y1
              refine (product_none _ _ _ _ _ _ (insAt P ⟨q.st, q.id, q.en, dp, q.dd⟩ k) _ _ _ (by omega) (RW.below e4) HA.out).mono ?_
              rintro e wc5 ⟨rfl, d5⟩
              have g5 := e4.trans (d5.mono e4.size)
              have e5 := g5.alloc g5.size (.cells #[.string ⟨#[]⟩, .string ⟨#[]⟩, .string ⟨#[]⟩, .pointer none] 35)
              have X35 := (X34.below d5).alloc (.cells #[.string ⟨#[]⟩, .string ⟨#[]⟩, .string ⟨#[]⟩, .pointer none] 35)
              have X55 := Box.made wc5 zeroZ 35
              have X35b := X35
              obtain ⟨m0, m1, m2, m3⟩ := X35
              obtain ⟨n0, n1, n2, n3⟩ := X55
              obtain ⟨o0, o1, o2, o3⟩ := XW.below e5
              simp only [zeroZ] at m0 m1 m2 m3 n0 n1 n2 n3
              clear g5 d5 e4 X34
              by_cases t1 : q.st.toList = s.toList
              · have t2 := hits_false HITS.out t1
                go_wp2_with fail
                refine (isZero_any _).mono ?_
                rintro e wc6 ⟨rfl, d6⟩
                obtain ⟨m0, m1, m2, m3⟩ := X35b.below d6
                simp only [zeroZ] at m0 m1 m2 m3
                have g6 := e5.trans (d6.mono e5.size)
                go_wp2_with fail
                refine (isZero_any _).mono ?_
                rintro e wc7 ⟨rfl, d7⟩
                go_wp2_with fail
                go_ret
                exact ⟨rfl, (BW.trans (g6.mono BW.size)).trans (d7.mono (Nat.le_trans BW.size g6.size))⟩
              · have t2 : (q.st.toList == s.toList) = false := by simpa using t1
                go_wp2_with fail
                refine (isZero_any _).mono ?_
                rintro e wc6 ⟨rfl, d6⟩
                obtain ⟨m0, m1, m2, m3⟩ := X35b.below d6
                simp only [zeroZ] at m0 m1 m2 m3
                have g6 := e5.trans (d6.mono e5.size)
                go_wp2_with fail
                refine (isZero_any _).mono ?_
                rintro e wc7 ⟨rfl, d7⟩
                go_wp2_with fail
                go_ret
                exact ⟨rfl, (BW.trans (g6.mono BW.size)).trans (d7.mono (Nat.le_trans BW.size g6.size))⟩

end Go.Proofs.Qxb6627641a
