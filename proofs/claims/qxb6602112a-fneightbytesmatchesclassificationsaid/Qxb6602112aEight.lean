import Derived.Test.Qxb6602112aEightParts
import Derived.Deep.CutBlock
import Derived.Deep.DeepCutAuto
/-
  'eightbytes' (function 21), walked.
-/
namespace Go.Proofs.Qxb6602112a.fd
open Go.ChangeShapes Go.WideShapes Go.ChangeAt Go.RowKit

set_option maxHeartbeats 4000000 in
theorem eight_any (w : World) (v : Value) (L : List T) (hv : At w v L) (hn : L.length ≤ 32768) (sz c0 : Int) (h16 : sz ≤ 16) (hlo : -9223372036854775808 ≤ sz) (R : Nat) (hR : ∀ r : Nat, r < R → 8 * (r : Int) < sz) (hR2 : sz ≤ 8 * (R : Int)) (hR3 : R ≤ 2) :
    Calls Try.prog 21 #[.agg #[.int .i64 c0, .int .i64 sz, .bool false, .bool false, .bool false, .pointer none, v, .bool false, .bool false, .bool false, .slice none 0 0, .int .i64 0, .string ByteArray.empty, .pointer none]] w fun e w' =>
      ∃ pv, e = .returned pv ∧ w'.ownsRow (w.heap.size + 1) 43 4 pv R (parts sz (L.filter keep) R) ∧ (R = 0 → pv = .slice none 0 0) ∧ Below w.heap.size w w' := by
  have hbx := bx_start w c0 sz v
  have HCF : Hid (∀ W, At W v L → Calls Try.prog 23 #[.agg #[.int .i64 c0, .int .i64 sz, .bool false, .bool false, .bool false, .pointer none, v, .bool false, .bool false, .bool false, .slice none 0 0, .int .i64 0, .string ByteArray.empty, .pointer none]] W fun e w' =>
      ∃ v, e = .returned v ∧ At w' v (L.filter keep) ∧ Below W.heap.size W w') := fun W hW => cf_any W v L hW hn sz c0
  obtain ⟨i0, hi, hz0, hz1, hz2⟩ := info_parts info43
  go_enter Try.func21, Try.ntmps21
  go_wp2_with fail
  go_loopg [3, 4] R (fun gk pv x wr => ∃ r : Nat, r ≤ R ∧ gk = R - r ∧ x = .int .i64 (8 * (r : Int)) ∧ wr.ownsRow (w.heap.size + 1) 43 4 pv r (parts sz (L.filter keep) r) ∧ (r = 0 → pv = .slice none 0 0) ∧ Bx w wr c0 sz v)
  case atStart => exact ⟨0, Nat.zero_le _, rfl, rfl, World.ownsRow_nil _ _ _ _, fun _ => rfl, hbx⟩
  case round =>
    clear hbx
    obtain ⟨r, hr, rfl, rfl, hown, hnil, hbx⟩ := hrel
    by_cases hlt : r < R
    · have hoff := hR r hlt
      have hr2 : r ≤ 1 := by omega
      have b0 := hbx.b0
      have b1 := hbx.b1
      have b2 := hbx.b2
      have b3 := hbx.b3
      have b4 := hbx.b4
      have b5 := hbx.b5
      have b6 := hbx.b6
      have b7 := hbx.b7
      have b8 := hbx.b8
      have b9 := hbx.b9
      have b10 := hbx.b10
      have b11 := hbx.b11
      have b12 := hbx.b12
      have b13 := hbx.b13
      have lbx := hbx.lt
      clear hR hR2
      by_cases hm : sz - 8 * (r : Int) < 8
      · have HM2 : Hid (mn sz r = sz - 8 * (r : Int)) := by show mn sz r = _; unfold mn; rw [if_pos hm]
        go_wp2_with fail
        refine (HCF.out _ ((hv.below hbx.bel).below ((Below.refl _ _).alloc (Nat.le_refl _) _))).mono ?_
        rintro e w1 ⟨v', rfl, hat, hb1⟩
        obtain ⟨a', c', rfl, hrow⟩ := hat
        have hpt := pt_start hb1
        have hbx1 := (hbx.on ((Below.refl _ _).alloc (Nat.le_refl _) _)).on hb1
        have HO1 : Hid (∀ wx, w1.grownBy wx (some wr.heap.size) → wx.ownsRow (w.heap.size + 1) 43 4 u3 r (parts sz (L.filter keep) r)) := fun wx hgx =>
          ((hown.alloc _).kept (gb_of_below hb1) (by cases h : u3.ownBlock; exact .inl rfl; exact .inr (by simp))).kept hgx (by
            cases h : u3.ownBlock with
            | none => exact .inl rfl
            | some k => exact .inr (by have := (hown.lt k h).2; simp; omega))
        have lw1 : wr.heap.size < w1.heap.size := hpt.lt
        have HNG : Hid (∀ g, Row w1 g (L.filter keep).length (flat (L.filter keep)) → 0 < (L.filter keep).length → g ≠ wr.heap.size) := by
          intro g hg h0 e
          subst e
          have q1 := (hg 2 (by omega)).1
          have q2 := hpt.p2
          rw [q2] at q1
          have e2 : flat (L.filter keep) 2 = elV ((L.filter keep).getD 0 z) 2 := rfl
          rw [e2] at q1
          simp [elV] at q1
        clear b0 b1 b2 b3 b4 b5 b6 b7 b8 b9 b10 b11 b12 b13 hb1 HCF hbx hv
        go_upto_block 2 with fail
        go_cut [] (fun wc => Pt w1 wc wr.heap.size (clsOf (8 * (r : Int)) (L.filter keep)) (8 * (r : Int)) (sz - 8 * (r : Int)))
        case first =>
          go_wp2_with fail
          go_loopg [27] (L.filter keep).length (fun gk x wx => ∃ m : Nat, m ≤ (L.filter keep).length ∧ gk = (L.filter keep).length - m ∧ x = .int .i64 m ∧ Pt w1 wx wr.heap.size (clsOf (8 * (r : Int)) ((L.filter keep).take m)) (8 * (r : Int)) (sz - 8 * (r : Int)))
          case atStart => exact ⟨0, Nat.zero_le _, rfl, rfl, hpt⟩
          case round =>
            clear hpt
            obtain ⟨m, hm, rfl, rfl, hp⟩ := hrel
            by_cases hmn : m < (L.filter keep).length
            · obtain ⟨g, rfl, hrw⟩ := hrow (by omega)
              have hgne := HNG.out g hrw (by omega)
              have hrw2 := gb_row hrw hp.gb hgne
              have lgx := hrw2.lt (by omega)
              generalize htt : (L.filter keep).getD m z = t
              have HCS := cls_step (8 * (r : Int)) (L.filter keep) m hmn t htt
              have HCL : Hid (clsOf (8 * (r : Int)) ((L.filter keep).take (m + 1)) = if hit (8 * (r : Int)) t then 1 else clsOf (8 * (r : Int)) ((L.filter keep).take m)) := HCS
              clear HCS
              obtain ⟨k, o, p⟩ := t
              obtain ⟨t0, t1, t2, t3, t4, t5, t6, t7, t8, t9, t10, t11, t12, t13, t14⟩ := row_elem hrw2 hmn ⟨k, o, p⟩ htt
              simp only at t0 t8 t14
              have p0 := hp.p0
              have fz := hp.fz
              have lhx : wr.heap.size < wr.heap.size + 1 := by omega
              have lpx := Nat.lt_of_lt_of_le hp.lt hp.gb.size
              have hln : (L.filter keep).length ≤ 32768 := Nat.le_trans (List.length_filter_le _ _) hn
              have q0 : (m : Int) < ((L.filter keep).length : Int) := by omega
              generalize (L.filter keep).length = N at *
              generalize clsOf (8 * (r : Int)) ((L.filter keep).take m) = cl at *
              clear hrow hrw hrw2 htt HNG HO1 hbx1 hown hnil
              by_cases y1 : 8 * (r : Int) ≤ o
              · have z1 : decide (8 * (r : Int) ≤ o) = true := by simpa using y1
                by_cases y2 : o < 8 * (r : Int) + 8
                · have z2 : decide (o < 8 * (r : Int) + 8) = true := by simpa using y2
                  cases y3 : (k == 1)
                  · have HE : Hid (clsOf (8 * (r : Int)) ((L.filter keep).take (m + 1)) = cl) := by show clsOf _ _ = _; rw [HCL.out]; simp [hit, y1, y2, y3]
                    clear y1 y2 HCL
                    go_wp2
                    go_roundg (N - (m + 1))
                    case measure => omega
                    case rel => exact ⟨m + 1, by omega, rfl, by go_num, by rw [HE.out]; exact hp.alloc _⟩
                  · have HE : Hid (clsOf (8 * (r : Int)) ((L.filter keep).take (m + 1)) = 1) := by show clsOf _ _ = _; rw [HCL.out]; simp [hit, y1, y2, y3]
                    clear y1 y2 HCL
                    go_wp2
                    go_roundg (N - (m + 1))
                    case measure => omega
                    case rel => exact ⟨m + 1, by omega, rfl, by go_num, by rw [HE.out]; first | exact (hp.set 1).alloc _ | exact (hp.alloc _).set 1⟩
                · have z2 : decide (o < 8 * (r : Int) + 8) = false := by simpa using y2
                  have HE : Hid (clsOf (8 * (r : Int)) ((L.filter keep).take (m + 1)) = cl) := by show clsOf _ _ = _; rw [HCL.out]; simp [hit, y2]
                  clear y1 y2 HCL
                  go_wp2
                  go_roundg (N - (m + 1))
                  case measure => omega
                  case rel => exact ⟨m + 1, by omega, rfl, by go_num, by rw [HE.out]; exact hp.alloc _⟩
              · have z1 : decide (8 * (r : Int) ≤ o) = false := by simpa using y1
                have HE : Hid (clsOf (8 * (r : Int)) ((L.filter keep).take (m + 1)) = cl) := by show clsOf _ _ = _; rw [HCL.out]; simp [hit, y1]
                clear y1 HCL
                go_wp2
                go_roundg (N - (m + 1))
                case measure => omega
                case rel => exact ⟨m + 1, by omega, rfl, by go_num, by rw [HE.out]; exact hp.alloc _⟩
            · obtain rfl : m = (L.filter keep).length := by omega
              have q0 : ¬ (((L.filter keep).length : Nat) : Int) < (((L.filter keep).length : Nat) : Int) := by omega
              rw [List.take_length] at hp
              clear HNG HO1
              go_wp2_with fail
              go_meet
              exact hp
        case rest =>
          have hp : Pt w1 wc wr.heap.size (clsOf (8 * (r : Int)) (L.filter keep)) (8 * (r : Int)) (sz - 8 * (r : Int)) := hcut
          clear hcut hpt hrow HNG
          have p0 := hp.p0
          have p1 := hp.p1
          have p2 := hp.p2
          have p3 := hp.p3
          have hown2 := HO1.out wc hp.gb
          have hbx2 := gb_bx hbx1 hp.gb lbx
          clear HO1 hown hbx1
          have lwc := hbx2.lt
          go_wp2_with (at_builtin; refine wpList_append_own _ rfl (.tmp 50) (.tmp 52) 29 rfl (w.heap.size + 1) 43 i0 (.agg #[.int .i64 0, .int .i64 0, .int .i64 0, .string ByteArray.empty]) 4 40 Try.underlying29 hi hz0 hz1 hz2 rfl (by decide) u3 r (parts sz (L.filter keep) r) rfl (hown2.alloc _) ⟨wc.heap.size, 0, none⟩ 1 1 [.int .i64 (clsOf (8 * (r : Int)) (L.filter keep)), .int .i64 (8 * (r : Int)), .int .i64 (sz - 8 * (r : Int)), .string { data := #[] }] rfl rfl (new4 _ _ _ _ _) (one4 _ _ _) (by unfold maxLen; omega) (by omega) (by simp; omega) ?_; intro v' w2 hown' hg2 hv2)
          have hbx3 := gb_bx2 (hbx2.on ((Below.refl _ _).alloc (Nat.le_refl _) _)) hg2 (fun k hk => by have := (hown2.lt k hk).1; omega)
          have HOW : Hid (w2.ownsRow (w.heap.size + 1) 43 4 v' (r + 1) (parts sz (L.filter keep) (r + 1))) := by
            show w2.ownsRow (w.heap.size + 1) 43 4 v' (r + 1) (parts sz (L.filter keep) r ++ [.int .i64 (clsOf (8 * (r : Int)) (L.filter keep)), .int .i64 (8 * (r : Int)), .int .i64 (mn sz r), .string ByteArray.empty])
            rw [HM2.out]
            exact hown'
          clear hown' hg2 hv2 hown2 hbx2 p0 p1 p2 p3 hp hnil
          go_wp2
          go_roundg (R - (r + 1))
          case measure => omega
          case rel => exact ⟨r + 1, by omega, rfl, congrArg (Value.int IntKind.i64) (by omega), HOW.out, fun h => absurd h (by omega), hbx3⟩
      · have HM2 : Hid (mn sz r = 8) := by show mn sz r = _; unfold mn; rw [if_neg hm]
        go_wp2_with fail
        refine (HCF.out _ ((hv.below hbx.bel).below ((Below.refl _ _).alloc (Nat.le_refl _) _))).mono ?_
        rintro e w1 ⟨v', rfl, hat, hb1⟩
        obtain ⟨a', c', rfl, hrow⟩ := hat
        have hpt := pt_start hb1
        have hbx1 := (hbx.on ((Below.refl _ _).alloc (Nat.le_refl _) _)).on hb1
        have HO1 : Hid (∀ wx, w1.grownBy wx (some wr.heap.size) → wx.ownsRow (w.heap.size + 1) 43 4 u3 r (parts sz (L.filter keep) r)) := fun wx hgx =>
          ((hown.alloc _).kept (gb_of_below hb1) (by cases h : u3.ownBlock; exact .inl rfl; exact .inr (by simp))).kept hgx (by
            cases h : u3.ownBlock with
            | none => exact .inl rfl
            | some k => exact .inr (by have := (hown.lt k h).2; simp; omega))
        have lw1 : wr.heap.size < w1.heap.size := hpt.lt
        have HNG : Hid (∀ g, Row w1 g (L.filter keep).length (flat (L.filter keep)) → 0 < (L.filter keep).length → g ≠ wr.heap.size) := by
          intro g hg h0 e
          subst e
          have q1 := (hg 2 (by omega)).1
          have q2 := hpt.p2
          rw [q2] at q1
          have e2 : flat (L.filter keep) 2 = elV ((L.filter keep).getD 0 z) 2 := rfl
          rw [e2] at q1
          simp [elV] at q1
        clear b0 b1 b2 b3 b4 b5 b6 b7 b8 b9 b10 b11 b12 b13 hb1 HCF hbx hv
        go_upto_block 2 with fail
        go_cut [] (fun wc => Pt w1 wc wr.heap.size (clsOf (8 * (r : Int)) (L.filter keep)) (8 * (r : Int)) 8)
        case first =>
          go_wp2_with fail
          go_loopg [27] (L.filter keep).length (fun gk x wx => ∃ m : Nat, m ≤ (L.filter keep).length ∧ gk = (L.filter keep).length - m ∧ x = .int .i64 m ∧ Pt w1 wx wr.heap.size (clsOf (8 * (r : Int)) ((L.filter keep).take m)) (8 * (r : Int)) 8)
          case atStart => exact ⟨0, Nat.zero_le _, rfl, rfl, hpt⟩
          case round =>
            clear hpt
            obtain ⟨m, hm, rfl, rfl, hp⟩ := hrel
            by_cases hmn : m < (L.filter keep).length
            · obtain ⟨g, rfl, hrw⟩ := hrow (by omega)
              have hgne := HNG.out g hrw (by omega)
              have hrw2 := gb_row hrw hp.gb hgne
              have lgx := hrw2.lt (by omega)
              generalize htt : (L.filter keep).getD m z = t
              have HCS := cls_step (8 * (r : Int)) (L.filter keep) m hmn t htt
              have HCL : Hid (clsOf (8 * (r : Int)) ((L.filter keep).take (m + 1)) = if hit (8 * (r : Int)) t then 1 else clsOf (8 * (r : Int)) ((L.filter keep).take m)) := HCS
              clear HCS
              obtain ⟨k, o, p⟩ := t
              obtain ⟨t0, t1, t2, t3, t4, t5, t6, t7, t8, t9, t10, t11, t12, t13, t14⟩ := row_elem hrw2 hmn ⟨k, o, p⟩ htt
              simp only at t0 t8 t14
              have p0 := hp.p0
              have fz := hp.fz
              have lhx : wr.heap.size < wr.heap.size + 1 := by omega
              have lpx := Nat.lt_of_lt_of_le hp.lt hp.gb.size
              have hln : (L.filter keep).length ≤ 32768 := Nat.le_trans (List.length_filter_le _ _) hn
              have q0 : (m : Int) < ((L.filter keep).length : Int) := by omega
              generalize (L.filter keep).length = N at *
              generalize clsOf (8 * (r : Int)) ((L.filter keep).take m) = cl at *
              clear hrow hrw hrw2 htt HNG HO1 hbx1 hown hnil
              by_cases y1 : 8 * (r : Int) ≤ o
              · have z1 : decide (8 * (r : Int) ≤ o) = true := by simpa using y1
                by_cases y2 : o < 8 * (r : Int) + 8
                · have z2 : decide (o < 8 * (r : Int) + 8) = true := by simpa using y2
                  cases y3 : (k == 1)
                  · have HE : Hid (clsOf (8 * (r : Int)) ((L.filter keep).take (m + 1)) = cl) := by show clsOf _ _ = _; rw [HCL.out]; simp [hit, y1, y2, y3]
                    clear y1 y2 HCL
                    go_wp2
                    go_roundg (N - (m + 1))
                    case measure => omega
                    case rel => exact ⟨m + 1, by omega, rfl, by go_num, by rw [HE.out]; exact hp.alloc _⟩
                  · have HE : Hid (clsOf (8 * (r : Int)) ((L.filter keep).take (m + 1)) = 1) := by show clsOf _ _ = _; rw [HCL.out]; simp [hit, y1, y2, y3]
                    clear y1 y2 HCL
                    go_wp2
                    go_roundg (N - (m + 1))
                    case measure => omega
                    case rel => exact ⟨m + 1, by omega, rfl, by go_num, by rw [HE.out]; first | exact (hp.set 1).alloc _ | exact (hp.alloc _).set 1⟩
                · have z2 : decide (o < 8 * (r : Int) + 8) = false := by simpa using y2
                  have HE : Hid (clsOf (8 * (r : Int)) ((L.filter keep).take (m + 1)) = cl) := by show clsOf _ _ = _; rw [HCL.out]; simp [hit, y2]
                  clear y1 y2 HCL
                  go_wp2
                  go_roundg (N - (m + 1))
                  case measure => omega
                  case rel => exact ⟨m + 1, by omega, rfl, by go_num, by rw [HE.out]; exact hp.alloc _⟩
              · have z1 : decide (8 * (r : Int) ≤ o) = false := by simpa using y1
                have HE : Hid (clsOf (8 * (r : Int)) ((L.filter keep).take (m + 1)) = cl) := by show clsOf _ _ = _; rw [HCL.out]; simp [hit, y1]
                clear y1 HCL
                go_wp2
                go_roundg (N - (m + 1))
                case measure => omega
                case rel => exact ⟨m + 1, by omega, rfl, by go_num, by rw [HE.out]; exact hp.alloc _⟩
            · obtain rfl : m = (L.filter keep).length := by omega
              have q0 : ¬ (((L.filter keep).length : Nat) : Int) < (((L.filter keep).length : Nat) : Int) := by omega
              rw [List.take_length] at hp
              clear HNG HO1
              go_wp2_with fail
              go_meet
              exact hp
        case rest =>
          have hp : Pt w1 wc wr.heap.size (clsOf (8 * (r : Int)) (L.filter keep)) (8 * (r : Int)) 8 := hcut
          clear hcut hpt hrow HNG
          have p0 := hp.p0
          have p1 := hp.p1
          have p2 := hp.p2
          have p3 := hp.p3
          have hown2 := HO1.out wc hp.gb
          have hbx2 := gb_bx hbx1 hp.gb lbx
          clear HO1 hown hbx1
          have lwc := hbx2.lt
          go_wp2_with (at_builtin; refine wpList_append_own _ rfl (.tmp 50) (.tmp 52) 29 rfl (w.heap.size + 1) 43 i0 (.agg #[.int .i64 0, .int .i64 0, .int .i64 0, .string ByteArray.empty]) 4 40 Try.underlying29 hi hz0 hz1 hz2 rfl (by decide) u3 r (parts sz (L.filter keep) r) rfl (hown2.alloc _) ⟨wc.heap.size, 0, none⟩ 1 1 [.int .i64 (clsOf (8 * (r : Int)) (L.filter keep)), .int .i64 (8 * (r : Int)), .int .i64 8, .string { data := #[] }] rfl rfl (new4 _ _ _ _ _) (one4 _ _ _) (by unfold maxLen; omega) (by omega) (by simp; omega) ?_; intro v' w2 hown' hg2 hv2)
          have hbx3 := gb_bx2 (hbx2.on ((Below.refl _ _).alloc (Nat.le_refl _) _)) hg2 (fun k hk => by have := (hown2.lt k hk).1; omega)
          have HOW : Hid (w2.ownsRow (w.heap.size + 1) 43 4 v' (r + 1) (parts sz (L.filter keep) (r + 1))) := by
            show w2.ownsRow (w.heap.size + 1) 43 4 v' (r + 1) (parts sz (L.filter keep) r ++ [.int .i64 (clsOf (8 * (r : Int)) (L.filter keep)), .int .i64 (8 * (r : Int)), .int .i64 (mn sz r), .string ByteArray.empty])
            rw [HM2.out]
            exact hown'
          clear hown' hg2 hv2 hown2 hbx2 p0 p1 p2 p3 hp hnil
          go_wp2
          go_roundg (R - (r + 1))
          case measure => omega
          case rel => exact ⟨r + 1, by omega, rfl, congrArg (Value.int IntKind.i64) (by omega), HOW.out, fun h => absurd h (by omega), hbx3⟩
    · obtain rfl : r = R := by omega
      have q0 : ¬ 8 * (r : Int) < sz := by omega
      have b1 := hbx.b1
      clear HCF hv
      go_wp2
      go_ret
      exact ⟨u3, rfl, hown, hnil, hbx.bel⟩
end Go.Proofs.Qxb6602112a.fd
