import Derived.Test.Qxb6602187aColHead
/-
  '(*parser).columnAround' (function 12), walked: each round's cases apart.
-/
namespace Go.Proofs.Qxb6602187a.co
open Go.ChangeShapes Go.WideShapes Go.ChangeAt Go.RowKit

theorem lv_same {c : Nat → Nat} {first i j : Nat} {depth D lv : Int} (hj : first ≤ j) (hD : D = pl.bt c first (j + 1 - first) - pl.bt c first (i - first)) (hlv : lv = wrap64 (depth + D)) (h : pl.dl (c j) = 0) :
    lv = wrap64 (depth + (pl.bt c first (j - first) - pl.bt c first (i - first))) := by
  rw [hlv, hD, pl.bt_step c first j hj, h, Int.add_zero]
theorem lv_close {c : Nat → Nat} {first i j : Nat} {depth D lv : Int} (hj : first ≤ j) (hD : D = pl.bt c first (j + 1 - first) - pl.bt c first (i - first)) (hlv : lv = wrap64 (depth + D)) (h : c j = 3) :
    wrap64 (lv + 1) = wrap64 (depth + (pl.bt c first (j - first) - pl.bt c first (i - first))) := by
  rw [hlv, lev_up, hD, pl.bt_step c first j hj, h]
  congr 1
  simp [pl.dl]; omega
theorem lv_open {c : Nat → Nat} {first i j : Nat} {depth D lv : Int} (hj : first ≤ j) (hD : D = pl.bt c first (j + 1 - first) - pl.bt c first (i - first)) (hlv : lv = wrap64 (depth + D)) (h : c j = 2) :
    wrap64 (lv - 1) = wrap64 (depth + (pl.bt c first (j - first) - pl.bt c first (i - first))) := by
  rw [hlv, lev_down, hD, pl.bt_step c first j hj, h]
  congr 1
  simp [pl.dl]; omega
theorem F_next {c : Nat → Nat} {first i j F : Nat} (hj : first ≤ j) (hF : pl.lastQ (pl.qB c first i) first (j + 1 - first) = F) (hq : pl.qB c first i j = false) : pl.lastQ (pl.qB c first i) first (j - first) = F := by
  rw [pl.lastQ_step _ _ _ hj, hq] at hF; simpa using hF
theorem F_hit {c : Nat → Nat} {first i j F : Nat} (hj : first ≤ j) (hF : pl.lastQ (pl.qB c first i) first (j + 1 - first) = F) (hq : pl.qB c first i j = true) : F = j + 1 := by
  rw [pl.lastQ_step _ _ _ hj, hq] at hF; simpa using hF.symm
theorem q_cls {c : Nat → Nat} {first i j : Nat} (h1 : c j ≠ 1) (h2 : c j ≠ 2) : pl.qB c first i j = false := by simp [pl.qB, h1, h2]
theorem q_lev {c : Nat → Nat} {first i j : Nat} {D : Int} (hD : D = pl.bt c first (j + 1 - first) - pl.bt c first (i - first)) (h : D ≠ 0) : pl.qB c first i j = false := by
  have : pl.bt c first (j + 1 - first) ≠ pl.bt c first (i - first) := by omega
  simp [pl.qB, this]
theorem q_hit {c : Nat → Nat} {first i j : Nat} {D : Int} (hD : D = pl.bt c first (j + 1 - first) - pl.bt c first (i - first)) (h : D = 0) (h1 : c j = 1 ∨ c j = 2) : pl.qB c first i j = true := by
  have : pl.bt c first (j + 1 - first) = pl.bt c first (i - first) := by omega
  rcases h1 with h1 | h1 <;> simp [pl.qB, this, h1]
theorem E_next {c : Nat → Nat} {first i j en e : Nat} (hj : j < en) (hE : pl.firstQ (pl.qE c first i) en (en - j) = e) (hq : pl.qE c first i j = false) : pl.firstQ (pl.qE c first i) en (en - (j + 1)) = e := by
  rw [pl.firstQ_step _ _ _ hj, hq] at hE; simpa using hE
theorem E_hit {c : Nat → Nat} {first i j en e : Nat} (hj : j < en) (hE : pl.firstQ (pl.qE c first i) en (en - j) = e) (hq : pl.qE c first i j = true) : e = j := by
  rw [pl.firstQ_step _ _ _ hj, hq] at hE; simpa using hE.symm
theorem e_cls {c : Nat → Nat} {first i j : Nat} (h1 : c j ≠ 1) (h2 : c j ≠ 3) : pl.qE c first i j = false := by simp [pl.qE, h1, h2]
theorem e_lev {c : Nat → Nat} {first i j : Nat} {lv : Int} (hD : lv = pl.bt c first (j - first) - pl.bt c first (i + 1 - first)) (h : lv ≠ 0) : pl.qE c first i j = false := by
  have : pl.bt c first (j - first) ≠ pl.bt c first (i + 1 - first) := by omega
  simp [pl.qE, this]
theorem e_hit {c : Nat → Nat} {first i j : Nat} {lv : Int} (hD : lv = pl.bt c first (j - first) - pl.bt c first (i + 1 - first)) (h : lv = 0) (h1 : c j = 1 ∨ c j = 3) : pl.qE c first i j = true := by
  have : pl.bt c first (j - first) = pl.bt c first (i + 1 - first) := by omega
  rcases h1 with h1 | h1 <;> simp [pl.qE, this, h1]
theorem lw_step {c : Nat → Nat} {first i j : Nat} {lv : Int} (hj : first ≤ j) (hD : lv = pl.bt c first (j - first) - pl.bt c first (i + 1 - first)) : pl.bt c first (j + 1 - first) - pl.bt c first (i + 1 - first) = lv + pl.dl (c j) := by
  rw [pl.bt_step c first j hj, hD]; omega

set_option maxRecDepth 100000 in
set_option maxHeartbeats 4000000 in
theorem col_any (w : World) (pb G len : Nat) (K : Nat → Int) (Q : Nat → Bool) (X : Nat → ByteArray) (A E : Nat → Int) (hp : Par w pb G len K Q X A E) (hl : len ≤ 65536)
    (i first en : Nat) (depth : Int) (h1 : first ≤ i) (h2 : i < en) (h3 : en ≤ len) (hd0 : -9223372036854775808 ≤ depth) (hd1 : depth ≤ 9223372036854775807) (c : Nat → Nat) (hc : Hid (∀ j, c j = pl.cls (K j) (X j).toList)) (F e : Nat) (HF : Hid (pl.colF c first i = F)) (HE : Hid (pl.colE c first i en = e)) :
    Calls Try.prog 12 #[.pointer (some ⟨pb, 0, none⟩), .int .i64 i, .agg #[.int .i64 first, .int .i64 en], .int .i64 depth] w fun x w' =>
      x = .returned (.agg #[.int .i64 F, .int .i64 e]) ∧ Below w.heap.size w w' := by
  have hst := st_start w first en
  go_enter Try.func12, Try.ntmps12
  go_upto_block 0 with fail
  go_cut [] (fun wc => St w wc first en F en)
  case first =>
    go_wp2_with fail
    go_loopg [10, 11] (i - first) (fun gk x l wr => ∃ (j1 : Nat) (y lv : Int), first ≤ j1 ∧ j1 ≤ i ∧ gk = j1 - first ∧ y = (j1 : Int) - 1 ∧ x = .int .i64 y ∧ l = .int .i64 lv ∧ lv = wrap64 (depth + (pl.bt c first (j1 - first) - pl.bt c first (i - first))) ∧ pl.lastQ (pl.qB c first i) first (j1 - first) = F ∧ St w wr first en first en)
    case atStart => exact ⟨i, i - 1, depth, h1, Nat.le_refl _, rfl, rfl, rfl, rfl, by unfold wrap64; omega, HF.out, hst⟩
    case round =>
      clear hst
      obtain ⟨j1, y, lv, hj1, hj2, rfl, hy, rfl, rfl, hlv, hF, hst⟩ := hrel
      have HLV : Hid (lv = wrap64 (depth + (pl.bt c first (j1 - first) - pl.bt c first (i - first)))) := hlv
      have HFJ : Hid (pl.lastQ (pl.qB c first i) first (j1 - first) = F) := hF
      clear hlv hF
      have s0 := hst.s0
      have d0 := hst.d0
      have d1 := hst.d1
      have z0 := hst.z0
      have lst := hst.lt
      by_cases hlt : first < j1
      · obtain ⟨j, rfl⟩ : ∃ j, j1 = j + 1 := ⟨j1 - 1, by omega⟩
        obtain rfl : y = (j : Int) := by omega
        clear hy
        have hjl : j < len := by omega
        have hp' := hp.below hst.bel
        have hpp := hp'.p
        have t0 := hp'.c0 j hjl
        have t1 := hp'.c1 j hjl
        have t2 := hp'.c2 j hjl
        have t3 := hp'.c3 j hjl
        have t4 := hp'.c4 j hjl
        have hcj := hc.out j
        have lG := hp.glt
        have lP := hp.plt
        obtain ⟨D, hD⟩ : ∃ D, D = pl.bt c first (j + 1 - first) - pl.bt c first (i - first) := ⟨_, rfl⟩
        have hb1 := pl.bt_bd c first (j + 1 - first)
        have hb2 := pl.bt_bd c first (i - first)
        have hlv' : lv = wrap64 (depth + D) := by rw [hD]; exact HLV.out
        have hle : (lv == depth) = decide (D = 0) := by rw [hlv']; exact lev_eq depth D hd0 hd1 (by omega) (by omega)
        have HD : Hid (D = pl.bt c first (j + 1 - first) - pl.bt c first (i - first)) := hD
        have HLD : Hid (lv = wrap64 (depth + D)) := hlv'
        clear hD hlv' HLV hb1 hb2 hp' hp
        have q0 : (first : Int) ≤ (j : Int) := by omega
        have q1 : (j : Int) < (len : Int) := by omega
        generalize K j = k at t0 hcj
        generalize X j = x at t2 hcj
        generalize Q j = qq at t1
        generalize A j = aa at t3
        generalize E j = ee at t4
        by_cases hz : D = 0
        · have hl1 : (lv == depth) = true := by rw [hle]; simpa using hz
          have HZ : Hid (D = 0) := hz
          clear hz hle
          rcases cls_cases k x with ⟨kk, hcl⟩ | ⟨kk, x1, x2, x3, hcl⟩ | ⟨kk, x1, x2, x3, hcl⟩ | ⟨kk, x1, x2, x3, hcl⟩ | ⟨kk, x1, x2, x3, hcl⟩
          · have HC : Hid (c j = 0) := hcj.trans hcl
            clear hcj hcl hc
            go_wp2
            go_roundg (j - first)
            case measure => omega
            case rel => exact ⟨j, (j : Int) - 1, lv, by omega, by omega, rfl, rfl, rfl, rfl, lv_same (by omega) HD.out HLD.out (by rw [HC.out]; rfl), F_next (by omega) HFJ.out (q_cls (by rw [HC.out]; decide) (by rw [HC.out]; decide)), hst.alloc _⟩
          · have HC : Hid (c j = 1) := hcj.trans hcl
            clear hcj hcl hc
            go_wp2_with fail
            go_meet
            have hFj := F_hit (by omega) HFJ.out (q_hit HD.out HZ.out (.inl HC.out))
            subst hFj
            first | exact (hst.setF _).alloc _ | exact (hst.alloc _).setF _
          · have HC : Hid (c j = 2) := hcj.trans hcl
            clear hcj hcl hc
            go_wp2_with fail
            go_meet
            have hFj := F_hit (by omega) HFJ.out (q_hit HD.out HZ.out (.inr HC.out))
            subst hFj
            first | exact (hst.setF _).alloc _ | exact (hst.alloc _).setF _
          · have HC : Hid (c j = 3) := hcj.trans hcl
            clear hcj hcl hc
            go_wp2
            go_roundg (j - first)
            case measure => omega
            case rel => exact ⟨j, (j : Int) - 1, wrap64 (lv + 1), by omega, by omega, rfl, rfl, rfl, rfl, lv_close (by omega) HD.out HLD.out HC.out, F_next (by omega) HFJ.out (q_cls (by rw [HC.out]; decide) (by rw [HC.out]; decide)), hst.alloc _⟩
          · have HC : Hid (c j = 0) := hcj.trans hcl
            clear hcj hcl hc
            go_wp2
            go_roundg (j - first)
            case measure => omega
            case rel => exact ⟨j, (j : Int) - 1, lv, by omega, by omega, rfl, rfl, rfl, rfl, lv_same (by omega) HD.out HLD.out (by rw [HC.out]; rfl), F_next (by omega) HFJ.out (q_cls (by rw [HC.out]; decide) (by rw [HC.out]; decide)), hst.alloc _⟩
        · have hl1 : (lv == depth) = false := by rw [hle]; simpa using hz
          have HZ : Hid (D ≠ 0) := hz
          clear hz hle
          rcases cls_cases k x with ⟨kk, hcl⟩ | ⟨kk, x1, x2, x3, hcl⟩ | ⟨kk, x1, x2, x3, hcl⟩ | ⟨kk, x1, x2, x3, hcl⟩ | ⟨kk, x1, x2, x3, hcl⟩
          · have HC : Hid (c j = 0) := hcj.trans hcl
            clear hcj hcl hc
            go_wp2
            go_roundg (j - first)
            case measure => omega
            case rel => exact ⟨j, (j : Int) - 1, lv, by omega, by omega, rfl, rfl, rfl, rfl, lv_same (by omega) HD.out HLD.out (by rw [HC.out]; rfl), F_next (by omega) HFJ.out (q_cls (by rw [HC.out]; decide) (by rw [HC.out]; decide)), hst.alloc _⟩
          · have HC : Hid (c j = 1) := hcj.trans hcl
            clear hcj hcl hc
            go_wp2
            go_roundg (j - first)
            case measure => omega
            case rel => exact ⟨j, (j : Int) - 1, lv, by omega, by omega, rfl, rfl, rfl, rfl, lv_same (by omega) HD.out HLD.out (by rw [HC.out]; rfl), F_next (by omega) HFJ.out (q_lev HD.out HZ.out), hst.alloc _⟩
          · have HC : Hid (c j = 2) := hcj.trans hcl
            clear hcj hcl hc
            go_wp2
            go_roundg (j - first)
            case measure => omega
            case rel => exact ⟨j, (j : Int) - 1, wrap64 (lv - 1), by omega, by omega, rfl, rfl, rfl, rfl, lv_open (by omega) HD.out HLD.out HC.out, F_next (by omega) HFJ.out (q_lev HD.out HZ.out), hst.alloc _⟩
          · have HC : Hid (c j = 3) := hcj.trans hcl
            clear hcj hcl hc
            go_wp2
            go_roundg (j - first)
            case measure => omega
            case rel => exact ⟨j, (j : Int) - 1, wrap64 (lv + 1), by omega, by omega, rfl, rfl, rfl, rfl, lv_close (by omega) HD.out HLD.out HC.out, F_next (by omega) HFJ.out (q_cls (by rw [HC.out]; decide) (by rw [HC.out]; decide)), hst.alloc _⟩
          · have HC : Hid (c j = 0) := hcj.trans hcl
            clear hcj hcl hc
            go_wp2
            go_roundg (j - first)
            case measure => omega
            case rel => exact ⟨j, (j : Int) - 1, lv, by omega, by omega, rfl, rfl, rfl, rfl, lv_same (by omega) HD.out HLD.out (by rw [HC.out]; rfl), F_next (by omega) HFJ.out (q_cls (by rw [HC.out]; decide) (by rw [HC.out]; decide)), hst.alloc _⟩
      · obtain rfl : j1 = first := by omega
        have q0 : ¬ (j1 : Int) ≤ y := by omega
        have hFj : Hid (j1 = F) := by have := HFJ.out; rw [Nat.sub_self] at this; exact this
        clear hy
        clear hc hp
        go_wp2_with fail
        go_meet
        rw [← hFj.out]
        exact hst
  case rest =>
    have hst' : St w wc first en F en := hcut
    clear hst hcut
    go_upto_block 2 with fail
    go_cut [] (fun wd => St w wd first en F e)
    case first =>
      go_wp2_with fail
      go_loopg [13, 14] (en - (i + 1)) (fun gk x l wr => ∃ (j : Nat) (lv : Int), i + 1 ≤ j ∧ j ≤ en ∧ gk = en - j ∧ x = .int .i64 j ∧ l = .int .i64 lv ∧ lv = pl.bt c first (j - first) - pl.bt c first (i + 1 - first) ∧ pl.firstQ (pl.qE c first i) en (en - j) = e ∧ St w wr first en F en)
      case atStart => exact ⟨i + 1, 0, Nat.le_refl _, by omega, rfl, by go_num, rfl, by omega, HE.out, hst'⟩
      case round =>
        clear hst'
        obtain ⟨j, lv, hj1, hj2, rfl, rfl, rfl, hlv, hE, hst⟩ := hrel
        have HLV : Hid (lv = pl.bt c first (j - first) - pl.bt c first (i + 1 - first)) := hlv
        have HEJ : Hid (pl.firstQ (pl.qE c first i) en (en - j) = e) := hE
        clear hlv hE
        have s1 := hst.s1
        have d0 := hst.d0
        have d1 := hst.d1
        have z1 := hst.z1
        have lst := hst.lt
        by_cases hlt : j < en
        · have hjl : j < len := by omega
          have hp' := hp.below hst.bel
          have hpp := hp'.p
          have t0 := hp'.c0 j hjl
          have t1 := hp'.c1 j hjl
          have t2 := hp'.c2 j hjl
          have t3 := hp'.c3 j hjl
          have t4 := hp'.c4 j hjl
          have hcj := hc.out j
          have lG := hp.glt
          have lP := hp.plt
          have hb1 := pl.bt_bd c first (j - first)
          have hb2 := pl.bt_bd c first (i + 1 - first)
          have hlo : -131072 ≤ lv := by rw [HLV.out]; omega
          have hhi : lv ≤ 131072 := by rw [HLV.out]; omega
          clear hb1 hb2 hp' hp
          have q0 : (j : Int) < (en : Int) := by omega
          have q1 : (j : Int) < (len : Int) := by omega
          generalize K j = k at t0 hcj
          generalize X j = x at t2 hcj
          generalize Q j = qq at t1
          generalize A j = aa at t3
          generalize E j = ee at t4
          by_cases hz : lv = 0
          · have hl1 : (lv == 0) = true := by simpa using hz
            have HZ : Hid (lv = 0) := hz
            clear hz
            rcases cls_cases k x with ⟨kk, hcl⟩ | ⟨kk, x1, x2, x3, hcl⟩ | ⟨kk, x1, x2, x3, hcl⟩ | ⟨kk, x1, x2, x3, hcl⟩ | ⟨kk, x1, x2, x3, hcl⟩
            · have HC : Hid (c j = 0) := hcj.trans hcl
              clear hcj hcl hc
              go_wp2
              go_roundg (en - (j + 1))
              case measure => omega
              case rel => exact ⟨j + 1, lv, by omega, by omega, rfl, by go_num, rfl, (by rw [lw_step (by omega) HLV.out, HC.out]; simp [pl.dl]), E_next hlt HEJ.out (e_cls (by rw [HC.out]; decide) (by rw [HC.out]; decide)), hst.alloc _⟩
            · have HC : Hid (c j = 1) := hcj.trans hcl
              clear hcj hcl hc
              go_wp2_with fail
              go_meet
              have hej := E_hit hlt HEJ.out (e_hit HLV.out HZ.out (.inl HC.out))
              subst hej
              first | exact (hst.setE _).alloc _ | exact (hst.alloc _).setE _
            · have HC : Hid (c j = 2) := hcj.trans hcl
              clear hcj hcl hc
              go_wp2
              go_roundg (en - (j + 1))
              case measure => omega
              case rel => exact ⟨j + 1, lv + 1, by omega, by omega, rfl, by go_num, rfl, (by rw [lw_step (by omega) HLV.out, HC.out]; simp [pl.dl]; try omega), E_next hlt HEJ.out (e_cls (by rw [HC.out]; decide) (by rw [HC.out]; decide)), hst.alloc _⟩
            · have HC : Hid (c j = 3) := hcj.trans hcl
              clear hcj hcl hc
              go_wp2_with fail
              go_meet
              have hej := E_hit hlt HEJ.out (e_hit HLV.out HZ.out (.inr HC.out))
              subst hej
              first | exact (hst.setE _).alloc _ | exact (hst.alloc _).setE _
            · have HC : Hid (c j = 0) := hcj.trans hcl
              clear hcj hcl hc
              go_wp2
              go_roundg (en - (j + 1))
              case measure => omega
              case rel => exact ⟨j + 1, lv, by omega, by omega, rfl, by go_num, rfl, (by rw [lw_step (by omega) HLV.out, HC.out]; simp [pl.dl]), E_next hlt HEJ.out (e_cls (by rw [HC.out]; decide) (by rw [HC.out]; decide)), hst.alloc _⟩
          · have hl1 : (lv == 0) = false := by simpa using hz
            have HZ : Hid (lv ≠ 0) := hz
            clear hz
            rcases cls_cases k x with ⟨kk, hcl⟩ | ⟨kk, x1, x2, x3, hcl⟩ | ⟨kk, x1, x2, x3, hcl⟩ | ⟨kk, x1, x2, x3, hcl⟩ | ⟨kk, x1, x2, x3, hcl⟩
            · have HC : Hid (c j = 0) := hcj.trans hcl
              clear hcj hcl hc
              go_wp2
              go_roundg (en - (j + 1))
              case measure => omega
              case rel => exact ⟨j + 1, lv, by omega, by omega, rfl, by go_num, rfl, (by rw [lw_step (by omega) HLV.out, HC.out]; simp [pl.dl]), E_next hlt HEJ.out (e_cls (by rw [HC.out]; decide) (by rw [HC.out]; decide)), hst.alloc _⟩
            · have HC : Hid (c j = 1) := hcj.trans hcl
              clear hcj hcl hc
              go_wp2
              go_roundg (en - (j + 1))
              case measure => omega
              case rel => exact ⟨j + 1, lv, by omega, by omega, rfl, by go_num, rfl, (by rw [lw_step (by omega) HLV.out, HC.out]; simp [pl.dl]), E_next hlt HEJ.out (e_lev HLV.out HZ.out), hst.alloc _⟩
            · have HC : Hid (c j = 2) := hcj.trans hcl
              clear hcj hcl hc
              go_wp2
              go_roundg (en - (j + 1))
              case measure => omega
              case rel => exact ⟨j + 1, lv + 1, by omega, by omega, rfl, by go_num, rfl, (by rw [lw_step (by omega) HLV.out, HC.out]; simp [pl.dl]; try omega), E_next hlt HEJ.out (e_cls (by rw [HC.out]; decide) (by rw [HC.out]; decide)), hst.alloc _⟩
            · have HC : Hid (c j = 3) := hcj.trans hcl
              clear hcj hcl hc
              go_wp2
              go_roundg (en - (j + 1))
              case measure => omega
              case rel => exact ⟨j + 1, lv - 1, by omega, by omega, rfl, by go_num, rfl, (by rw [lw_step (by omega) HLV.out, HC.out]; simp [pl.dl]; try omega), E_next hlt HEJ.out (e_lev HLV.out HZ.out), hst.alloc _⟩
            · have HC : Hid (c j = 0) := hcj.trans hcl
              clear hcj hcl hc
              go_wp2
              go_roundg (en - (j + 1))
              case measure => omega
              case rel => exact ⟨j + 1, lv, by omega, by omega, rfl, by go_num, rfl, (by rw [lw_step (by omega) HLV.out, HC.out]; simp [pl.dl]), E_next hlt HEJ.out (e_cls (by rw [HC.out]; decide) (by rw [HC.out]; decide)), hst.alloc _⟩
        · obtain rfl : j = en := by omega
          have q0 : ¬ (j : Int) < (j : Int) := by omega
          have hej : Hid (j = e) := by have := HEJ.out; rw [Nat.sub_self] at this; exact this
          clear hc hp
          go_wp2_with fail
          go_meet
          rw [← hej.out]
          exact hst
    case rest =>
      have hst : St w wc first en F e := hcut
      clear hst' hcut
      have d0 := hst.d0
      have d1 := hst.d1
      have r0 := hst.r0
      have r1 := hst.r1
      have y0 := hst.y0
      have y1 := hst.y1
      have lst := hst.lt
      go_wp2
      exact bodyPost_ret (v := .agg #[.int .i64 F, .int .i64 e]) (by simp [results, Try.results12, go_sem, r0, r1]) rfl ⟨rfl, (hst.bel.setCell (by simp) _).setCell (by simp) _⟩
end Go.Proofs.Qxb6602187a.co
