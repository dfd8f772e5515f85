/- THE LAW ValuationMonotone, walked: it returns true for every input. -/
import Derived.Test.YtiibgimanfkhdaaLaw
import Derived.Test.YtiibgimanfkhdaaPlain2
import Derived.Deep.DeepCutAuto
namespace Go.Proofs.Ytiibgimanfkhdaa
open Go.RowKit

-- giroref02.Compare
set_option maxHeartbeats 400000 in
theorem compare_any (n d m c : Int) (w : World) :
    Calls Try.prog 9 #[.agg #[.int .i64 n, .int .i64 d], .agg #[.int .i64 m, .int .i64 c]] w fun e w' => e = .returned (.int .i64 (Vp.cmpF n d m c)) ∧ Below w.heap.size w w' := by
  by_cases h1 : Vp.chk n d = 0
  · have t1 : (Vp.chk n d != 0) = false := by rw [h1]; rfl
    by_cases h2 : Vp.chk m c = 0
    · have t2 : (Vp.chk m c != 0) = false := by rw [h2]; rfl
      obtain ⟨a1, a2, a3, a4⟩ := Vp.chk_den n d h1
      obtain ⟨b1, b2, b3, b4⟩ := Vp.chk_den m c h2
      have p1 := Vp.prod_bound n c a3 a4 b1 b2
      have p2 := Vp.prod_bound m d b3 b4 a1 a2
      have E0 : Hid (Vp.cmpF n d m c = if n * c < m * d then -1 else if m * d < n * c then 1 else 0) := by show _ = _; unfold Vp.cmpF; rw [if_pos ⟨h1, h2⟩]
      obtain ⟨x, hx⟩ : ∃ x, x = n * c := ⟨_, rfl⟩
      obtain ⟨y, hy⟩ : ∃ y, y = m * d := ⟨_, rfl⟩
      rw [← hx] at p1 E0
      rw [← hy] at p2 E0
      have ex : IntKind.i64.wrap (n * c) = x := by rw [← hx]; exact IntWalk.i64_in _ (by omega)
      have ey : IntKind.i64.wrap (m * d) = y := by rw [← hy]; exact IntWalk.i64_in _ (by omega)
      clear h1 h2 hx hy
      have go : Calls Try.prog 9 #[.agg #[.int .i64 n, .int .i64 d], .agg #[.int .i64 m, .int .i64 c]] w fun e w' => e = .returned (.int .i64 (if x < y then -1 else if y < x then 1 else 0)) ∧ Below w.heap.size w w' := by
        by_cases l1 : x < y
        · rw [if_pos l1]
          go_enter Try.func9, Try.ntmps9
          go_wp2_with fail
          refine (chk_ref n d _).mono ?_
          rintro e w1 ⟨rfl, hb1⟩
          obtain ⟨hc1, hf1⟩ := bcell hb1
          go_wp2_with fail
          refine (chk_ref m c _).mono ?_
          rintro e w2 ⟨rfl, hb2⟩
          have hb12 := hb1.trans (hb2.mono hb1.size)
          obtain ⟨hc2, hf2⟩ := bcell hb12
          clear hc1 hf1
          go_wp2_with fail
          go_quiet (fail)
          go_wp2_with fail
          go_ret
          exact ⟨rfl, (((Below.refl _ _).alloc (Nat.le_refl _) _).alloc (by simp) _).trans (below_drewN (hb12.mono (by simp; omega)) _)⟩
        · rw [if_neg l1]
          by_cases l2 : y < x
          · rw [if_pos l2]
            go_enter Try.func9, Try.ntmps9
            go_wp2_with fail
            refine (chk_ref n d _).mono ?_
            rintro e w1 ⟨rfl, hb1⟩
            obtain ⟨hc1, hf1⟩ := bcell hb1
            go_wp2_with fail
            refine (chk_ref m c _).mono ?_
            rintro e w2 ⟨rfl, hb2⟩
            have hb12 := hb1.trans (hb2.mono hb1.size)
            obtain ⟨hc2, hf2⟩ := bcell hb12
            clear hc1 hf1
            go_wp2_with fail
            go_quiet (fail)
            go_wp2_with fail
            go_ret
            exact ⟨rfl, (((Below.refl _ _).alloc (Nat.le_refl _) _).alloc (by simp) _).trans (below_drewN (hb12.mono (by simp; omega)) _)⟩
          · rw [if_neg l2]
            go_enter Try.func9, Try.ntmps9
            go_wp2_with fail
            refine (chk_ref n d _).mono ?_
            rintro e w1 ⟨rfl, hb1⟩
            obtain ⟨hc1, hf1⟩ := bcell hb1
            go_wp2_with fail
            refine (chk_ref m c _).mono ?_
            rintro e w2 ⟨rfl, hb2⟩
            have hb12 := hb1.trans (hb2.mono hb1.size)
            obtain ⟨hc2, hf2⟩ := bcell hb12
            clear hc1 hf1
            go_wp2_with fail
            go_quiet (fail)
            go_wp2_with fail
            go_ret
            exact ⟨rfl, (((Below.refl _ _).alloc (Nat.le_refl _) _).alloc (by simp) _).trans (below_drewN (hb12.mono (by simp; omega)) _)⟩
      rw [E0.out]
      exact go
    · have t2 : (Vp.chk m c != 0) = true := by simp [h2]
      have E : Hid (Vp.cmpF n d m c = 0) := by show _ = _; unfold Vp.cmpF; rw [if_neg (by rintro ⟨_, g⟩; exact h2 g)]
      clear h1 h2
      go_enter Try.func9, Try.ntmps9
      go_wp2_with fail
      refine (chk_ref n d _).mono ?_
      rintro e w1 ⟨rfl, hb1⟩
      obtain ⟨hc1, hf1⟩ := bcell hb1
      go_wp2_with fail
      refine (chk_ref m c _).mono ?_
      rintro e w2 ⟨rfl, hb2⟩
      go_wp2_with fail
      go_ret
      exact ⟨ret_int E.out.symm, (((Below.refl _ _).alloc (Nat.le_refl _) _).alloc (by simp) _).trans ((hb1.trans (hb2.mono hb1.size)).mono (by simp; omega))⟩
  · have t1 : (Vp.chk n d != 0) = true := by simp [h1]
    have E : Hid (Vp.cmpF n d m c = 0) := by show _ = _; unfold Vp.cmpF; rw [if_neg (by rintro ⟨g, _⟩; exact h1 g)]
    clear h1
    go_enter Try.func9, Try.ntmps9
    go_wp2_with fail
    refine (chk_ref n d _).mono ?_
    rintro e w1 ⟨rfl, hb1⟩
    go_wp2_with fail
    go_ret
    exact ⟨ret_int E.out.symm, (((Below.refl _ _).alloc (Nat.le_refl _) _).alloc (by simp) _).trans (hb1.mono (by simp; omega))⟩
set_option maxRecDepth 100000 in
set_option maxHeartbeats 2000000 in
theorem law_monotone (q r p o n d m c : Int) (hr1 : -9223372036854775808 ≤ r) (hr2 : r ≤ 9223372036854775807) (w : World) :
    Calls Try.prog 4 #[.int .i64 q, .int .i64 r, .int .i64 p, .int .i64 o, .agg #[.int .i64 n, .int .i64 d], .agg #[.int .i64 m, .int .i64 c]] w fun e w' => e = .returned (.bool true) ∧ Below w.heap.size w w' := by
  have HW0 : ∀ W, Below ((w.alloc (.cells #[.int .i64 n, .int .i64 d] 23)).alloc (.cells #[.int .i64 m, .int .i64 c] 23)).heap.size ((w.alloc (.cells #[.int .i64 n, .int .i64 d] 23)).alloc (.cells #[.int .i64 m, .int .i64 c] 23)) W → Below w.heap.size w W :=
    fun W h => (((Below.refl _ _).alloc (Nat.le_refl _) _).alloc (by simp) _).trans (h.mono (by simp; omega))
  have FIN := Lib.hid HW0
  clear HW0
  go_enter Try.func4, Try.ntmps4
  go_wp2_with fail
  refine (of_any n d _).mono ?_
  rintro e w1 ⟨rfl, hb1⟩
  obtain ⟨hc, hf⟩ := bcell hb1
  go_wp2_with fail
  refine (value_any q p n d _).mono ?_
  rintro e w2 ⟨rfl, hn⟩
  have hb2 := hb1.trans (hn.mono hb1.size)
  clear hn hc hf
  obtain ⟨hc, hf⟩ := bcell hb2
  obtain ⟨a, ha⟩ : ∃ x, x = Vp.valN q p n d := ⟨_, rfl⟩
  obtain ⟨ea, hea⟩ : ∃ x, x = Vp.valE q p n d := ⟨_, rfl⟩
  rw [← ha, ← hea]
  have Ha := Lib.hid ha
  have Hea := Lib.hid hea
  clear ha hea
  by_cases k0 : ea = 0
  · have z0 : (ea != 0) = false := by rw [k0]; rfl
    have K0 := Lib.hid (Hea.out.symm.trans k0)
    clear k0
    go_wp2_with fail
    refine (of_any n d _).mono ?_
    rintro e w3 ⟨rfl, hn⟩
    have hb3 := hb2.trans (hn.mono hb2.size)
    clear hn hc hf
    obtain ⟨hc, hf⟩ := bcell hb3
    go_wp2_with fail
    refine (value_any r p n d _).mono ?_
    rintro e w4 ⟨rfl, hn⟩
    have hb4 := hb3.trans (hn.mono hb3.size)
    clear hn hc hf
    obtain ⟨hc, hf⟩ := bcell hb4
    obtain ⟨b, hb⟩ : ∃ x, x = Vp.valN r p n d := ⟨_, rfl⟩
    obtain ⟨eb, heb⟩ : ∃ x, x = Vp.valE r p n d := ⟨_, rfl⟩
    rw [← hb, ← heb]
    have Hb := Lib.hid hb
    have Heb := Lib.hid heb
    clear hb heb
    go_wp2_with fail
    refine (of_any n d _).mono ?_
    rintro e w5 ⟨rfl, hn⟩
    have hb5 := hb4.trans (hn.mono hb4.size)
    clear hn hc hf
    obtain ⟨hc, hf⟩ := bcell hb5
    go_wp2_with fail
    refine (value_any q o n d _).mono ?_
    rintro e w6 ⟨rfl, hn⟩
    have hb6 := hb5.trans (hn.mono hb5.size)
    clear hn hc hf
    obtain ⟨hc, hf⟩ := bcell hb6
    obtain ⟨x, hx⟩ : ∃ x, x = Vp.valN q o n d := ⟨_, rfl⟩
    obtain ⟨ex, hex⟩ : ∃ x, x = Vp.valE q o n d := ⟨_, rfl⟩
    rw [← hx, ← hex]
    have Hx := Lib.hid hx
    have Hex := Lib.hid hex
    clear hx hex
    go_wp2_with fail
    refine (of_any m c _).mono ?_
    rintro e w7 ⟨rfl, hn⟩
    have hb7 := hb6.trans (hn.mono hb6.size)
    clear hn hc hf
    obtain ⟨hc, hf⟩ := bcell hb7
    go_wp2_with fail
    refine (value_any q p m c _).mono ?_
    rintro e w8 ⟨rfl, hn⟩
    have hb8 := hb7.trans (hn.mono hb7.size)
    clear hn hc hf
    obtain ⟨hc, hf⟩ := bcell hb8
    obtain ⟨y, hy⟩ : ∃ x, x = Vp.valN q p m c := ⟨_, rfl⟩
    obtain ⟨ey, hey⟩ : ∃ x, x = Vp.valE q p m c := ⟨_, rfl⟩
    rw [← hy, ← hey]
    have Hy := Lib.hid hy
    have Hey := Lib.hid hey
    clear hy hey
    -- what the plain laws say of the four values
    have k0 := K0.out
    have ha := Ha.out
    have hb := Hb.out
    have heb := Heb.out
    have hx := Hx.out
    have hex := Hex.out
    have hy := Hy.out
    have hey := Hey.out
    have M1 : eb = 0 → q ≤ r → a ≤ b := by rw [ha, hb, heb]; exact fun g l => Vp.mono_q q r p n d k0 g l
    have M2 : eb = 0 → r ≤ q → b ≤ a := by rw [ha, hb, heb]; exact fun g l => Vp.mono_q r q p n d g k0 l
    have M3 : ex = 0 → p ≤ o → a ≤ x := by rw [ha, hx, hex]; exact fun g l => Vp.mono_p q p o n d k0 g l
    have M4 : ex = 0 → o ≤ p → x ≤ a := by rw [ha, hx, hex]; exact fun g l => Vp.mono_p q o p n d g k0 l
    have M5 : ey = 0 → Vp.cmpF n d m c ≤ 0 → y ≤ a := by rw [ha, hy, hey]; exact fun g l => Vp.cmp_le q p n d m c k0 g l
    have M6 : ey = 0 → 0 ≤ Vp.cmpF n d m c → a ≤ y := by rw [ha, hy, hey]; exact fun g l => Vp.cmp_ge q p n d m c k0 g l
    have M7 : eb = 0 → Vp.valE (q + r) p n d = 0 → Vp.valN (q + r) p n d = a + b ∨ Vp.valN (q + r) p n d = a + b + 1 := by rw [ha, hb, heb]; exact fun g l => Vp.add_up q r p n d k0 g l
    obtain ⟨_, q1, q2, _⟩ := Vp.ok_parts q p n d k0
    have a1 : 0 ≤ a ∧ a ≤ 1000000000000000 := by rw [ha]; exact Vp.valN_bd q p n d
    have b1 : 0 ≤ b ∧ b ≤ 1000000000000000 := by rw [hb]; exact Vp.valN_bd r p n d
    have a2 := a1.1
    have a3 := a1.2
    have b2 := b1.1
    have b3 := b1.2
    have N1 := Lib.hid M1
    have N2 := Lib.hid M2
    have N3 := Lib.hid M3
    have N4 := Lib.hid M4
    have N5 := Lib.hid M5
    have N6 := Lib.hid M6
    have N7 := Lib.hid M7
    clear M1 M2 M3 M4 M5 M6 M7 k0 ha hb heb hx hex hy hey a1 b1
    go_upto_region 7 with (fail)
    go_cut [80] (fun s wx => s = .bool false ∧ Hid (wx = w8))
    case first =>
      by_cases g0 : eb = 0
      · have t0 : (eb == 0) = true := by rw [g0]; rfl
        by_cases g1 : q ≤ r
        · have g2 := N1.out g0 g1
          have t2 : decide (b < a) = false := decide_eq_false (by omega)
          by_cases g3 : r ≤ q
          · have g4 := N2.out g0 g3
            have t4 : decide (a < b) = false := decide_eq_false (by omega)
            clear g0
            go_wp2_with fail
            go_meet
            exact ⟨rfl, rfl⟩
          · have t3 : decide (r ≤ q) = false := decide_eq_false g3
            clear g0
            go_wp2_with fail
            go_meet
            exact ⟨rfl, rfl⟩
        · have t1 : decide (q ≤ r) = false := decide_eq_false g1
          have g3 : r ≤ q := by omega
          have g4 := N2.out g0 g3
          have t4 : decide (a < b) = false := decide_eq_false (by omega)
          clear g0
          go_wp2_with fail
          go_meet
          exact ⟨rfl, rfl⟩
      · have t0 : (eb == 0) = false := by simp [g0]
        clear g0
        go_wp2_with fail
        go_meet
        exact ⟨rfl, rfl⟩
    case rest =>
      obtain ⟨rfl, HW⟩ := hcut
      have hW := HW.out
      clear HW
      subst hW
      obtain ⟨w9, rfl⟩ : ∃ w9 : World, w9 = wc := ⟨_, rfl⟩
      go_upto_region 9 with (fail)
      go_cut [102] (fun s wx => s = .bool false ∧ Hid (wx = w9))
      case first =>
        by_cases g0 : ex = 0
        · have t0 : (ex == 0) = true := by rw [g0]; rfl
          by_cases g1 : p ≤ o
          · have g2 := N3.out g0 g1
            have t2 : decide (x < a) = false := decide_eq_false (by omega)
            by_cases g3 : o ≤ p
            · have g4 := N4.out g0 g3
              have t4 : decide (a < x) = false := decide_eq_false (by omega)
              clear g0
              go_wp2_with fail
              go_meet
              exact ⟨rfl, rfl⟩
            · have t3 : decide (o ≤ p) = false := decide_eq_false g3
              clear g0
              go_wp2_with fail
              go_meet
              exact ⟨rfl, rfl⟩
          · have t1 : decide (p ≤ o) = false := decide_eq_false g1
            have g3 : o ≤ p := by omega
            have g4 := N4.out g0 g3
            have t4 : decide (a < x) = false := decide_eq_false (by omega)
            clear g0
            go_wp2_with fail
            go_meet
            exact ⟨rfl, rfl⟩
        · have t0 : (ex == 0) = false := by simp [g0]
          clear g0
          go_wp2_with fail
          go_meet
          exact ⟨rfl, rfl⟩
      case rest =>
        obtain ⟨rfl, HW⟩ := hcut
        have hW := HW.out
        clear HW
        subst hW
        obtain ⟨w10, rfl⟩ : ∃ w10 : World, w10 = wc := ⟨_, rfl⟩
        go_wp2_with fail
        refine (compare_any n d m c _).mono ?_
        rintro e w11 ⟨rfl, hn⟩
        have hb11 := hb8.trans (hn.mono hb8.size)
        clear hn hc hf
        obtain ⟨hc, hf⟩ := bcell hb11
        have n5 := N5.out
        have n6 := N6.out
        obtain ⟨k, hk⟩ : ∃ k, k = Vp.cmpF n d m c := ⟨_, rfl⟩
        rw [← hk] at n5 n6
        rw [← hk]
        have P5 := Lib.hid n5
        have P6 := Lib.hid n6
        clear n5 n6 hk
        go_upto_region 12 with (fail)
        go_cut [125] (fun s wx => s = .bool false ∧ Hid (wx = w11))
        case first =>
          by_cases g0 : ey = 0
          · have t0 : (ey == 0) = true := by rw [g0]; rfl
            by_cases g1 : k ≤ 0
            · have g2 := P5.out g0 g1
              have t2 : decide (a < y) = false := decide_eq_false (by omega)
              by_cases g3 : 0 ≤ k
              · have g4 := P6.out g0 g3
                have t4 : decide (y < a) = false := decide_eq_false (by omega)
                clear g0
                go_wp2_with fail
                go_meet
                exact ⟨rfl, rfl⟩
              · have t3 : decide (0 ≤ k) = false := decide_eq_false g3
                clear g0
                go_wp2_with fail
                go_meet
                exact ⟨rfl, rfl⟩
            · have t1 : decide (k ≤ 0) = false := decide_eq_false g1
              have g3 : 0 ≤ k := by omega
              have g4 := P6.out g0 g3
              have t4 : decide (y < a) = false := decide_eq_false (by omega)
              clear g0
              go_wp2_with fail
              go_meet
              exact ⟨rfl, rfl⟩
          · have t0 : (ey == 0) = false := by simp [g0]
            clear g0
            go_wp2_with fail
            go_meet
            exact ⟨rfl, rfl⟩
        case rest =>
          obtain ⟨rfl, HW⟩ := hcut
          have hW := HW.out
          clear HW
          subst hW
          obtain ⟨w12, rfl⟩ : ∃ w12 : World, w12 = wc := ⟨_, rfl⟩
          by_cases r1 : r < 0
          · go_wp2_with (go_at_call 8; refine (known_any _).mono ?_; rintro e w13 ⟨rfl, hn⟩)
            go_ret
            exact ⟨rfl, FIN.out _ (hb11.trans (hn.mono hb11.size))⟩
          · by_cases r2 : 1000000000000000 < r
            · go_wp2_with (go_at_call 8; refine (known_any _).mono ?_; rintro e w13 ⟨rfl, hn⟩)
              go_ret
              exact ⟨rfl, FIN.out _ (hb11.trans (hn.mono hb11.size))⟩
            · go_wp2_with fail
              refine (of_any n d _).mono ?_
              rintro e w13 ⟨rfl, hn⟩
              have hb13 := hb11.trans (hn.mono hb11.size)
              clear hn hc hf
              obtain ⟨hc, hf⟩ := bcell hb13
              go_wp2_with fail
              refine (value_any (q + r) p n d _).mono ?_
              rintro e w14 ⟨rfl, hn⟩
              have hb14 := hb13.trans (hn.mono hb13.size)
              clear hn hc hf
              have n7 := N7.out
              obtain ⟨s, hs⟩ : ∃ s, s = Vp.valN (q + r) p n d := ⟨_, rfl⟩
              obtain ⟨es, hes⟩ : ∃ es, es = Vp.valE (q + r) p n d := ⟨_, rfl⟩
              rw [← hs, ← hes] at n7
              rw [← hs, ← hes]
              clear hs hes
              have P7 := Lib.hid n7
              clear n7
              go_wp2_with fail
              refine (known_any _).mono ?_
              rintro e w15 ⟨rfl, hn⟩
              have hb15 := hb14.trans (hn.mono hb14.size)
              clear hn
              by_cases g0 : eb = 0
              · have t0 : (eb != 0) = false := by rw [g0]; rfl
                by_cases g1 : es = 0
                · have t1 : (es != 0) = false := by rw [g1]; rfl
                  rcases P7.out g0 g1 with g2 | g2
                  · have t2 : (s == a + b) = true := by rw [g2]; simp
                    clear g0 g1 g2
                    go_wp2_with fail
                    go_ret
                    exact ⟨rfl, FIN.out _ hb15⟩
                  · have t2 : (s == a + b) = false := by simp; omega
                    have t3 : (s == a + b + 1) = true := by rw [g2]; simp
                    clear g0 g1 g2
                    go_wp2_with fail
                    go_ret
                    exact ⟨rfl, FIN.out _ hb15⟩
                · have t1 : (es != 0) = true := by simp [g1]
                  clear g0 g1
                  go_wp2_with fail
                  go_ret
                  exact ⟨rfl, FIN.out _ hb15⟩
              · have t0 : (eb != 0) = true := by simp [g0]
                clear g0
                go_wp2_with fail
                go_ret
                exact ⟨rfl, FIN.out _ hb15⟩
  · have z0 : (ea != 0) = true := by simp [k0]
    clear k0
    go_wp2_with fail
    refine (known_any _).mono ?_
    rintro e w3 ⟨rfl, hn⟩
    go_wp2_with fail
    go_ret
    exact ⟨rfl, FIN.out _ (hb2.trans (hn.mono hb2.size))⟩
end Go.Proofs.Ytiibgimanfkhdaa
