import Derived.Test.Qxb6602187aExt
import Derived.Deep.DeepCutAuto
import Derived.BigRegion
/-
  'b1ColumnModel' (function 9): what it returns is the plain side's 'colF', 'colE'.
-/
namespace Go.Proofs.Qxb6602187a.mo
open Go.ChangeShapes Go.WideShapes Go.ChangeAt Go.RowKit
open tk

theorem ret2 {a b c d : Nat} (h1 : a = c) (h2 : b = d) : Ending.returned (.tuple #[.int .i64 a, .int .i64 b]) = .returned (.tuple #[.int .i64 c, .int .i64 d]) := by rw [h1, h2]

theorem sep_of (k : Int) (x : ByteArray) (cl : Nat) (h : pl.cls k x.toList = cl) : sepB k x [44] = (cl == 1) ∧ sepB k x [40] = (cl == 2) ∧ sepB k x [41] = (cl == 3) := by
  subst h
  rcases co.cls_cases k x with ⟨kk, hcl⟩ | ⟨kk, x1, x2, x3, hcl⟩ | ⟨kk, x1, x2, x3, hcl⟩ | ⟨kk, x1, x2, x3, hcl⟩ | ⟨kk, x1, x2, x3, hcl⟩
  · rw [hcl]; simp [sepB, kk]
  all_goals rw [hcl]; simp [sepB, kk, x1, x2, x3]

set_option maxRecDepth 100000 in
set_option maxHeartbeats 4000000 in
theorem model_any (w : World) (b off len cap : Nat) (K : Nat → Int) (Q : Nat → Bool) (X : Nat → ByteArray) (A E : Nat → Int) (ht : Toks w b off len K Q X A E) (hl : len ≤ 65536)
    (i first en : Nat) (h1 : first ≤ i) (h2 : i < en) (h3 : en ≤ len) (c : Nat → Nat) (hc : Hid (∀ j, c j = pl.cls (K j) (X j).toList)) (F e : Nat) (HF : Hid (pl.colF c first i = F)) (HE : Hid (pl.colE c first i en = e)) :
    Calls Try.prog 9 #[.slice (some ⟨b, off, none⟩) len cap, .int .i64 i, .int .i64 first, .int .i64 en] w fun x w' =>
      x = .returned (.tuple #[.int .i64 F, .int .i64 e]) ∧ Below w.heap.size w w' := by
  have hmk := run_make_row' (P := Try.prog) 28 3 (.int .i64 0) 8 Try.underlying28 info3 rfl .i64 .i64 (en - first + 1) (by omega) (by omega)
  rw [show (((en - first + 1 : Nat)) : Int) = (en : Int) - (first : Int) + 1 by omega] at hmk
  have hms := bal_start w (en - first + 1) c first
  go_enter Try.func9, Try.ntmps9
  go_wp2_with fail
  clear hmk
  go_loopg [12] (en - first) (fun gk x wr => ∃ m : Nat, m ≤ en - first ∧ gk = en - first - m ∧ x = .int .i64 m ∧ Ms w wr (en - first + 1) (balUp c first m))
  case atStart => exact ⟨0, by omega, rfl, rfl, hms⟩
  case round =>
    clear hms
    obtain ⟨m, hm, rfl, rfl, hms⟩ := hrel
    by_cases hlt : m < en - first
    · have ht' := ht.below hms.bel
      have hjl : first + m < len := by omega
      have t0 := ht'.kd (first + m) hjl
      have t1 := ht'.ql (first + m) hjl
      have t2 := ht'.tx (first + m) hjl
      have t3 := ht'.pl (first + m) hjl
      have t4 := ht'.en (first + m) hjl
      have lb := ht.lt
      have hcj := hc.out (first + m)
      have g0 : wr.cell? ⟨w.heap.size, m, none⟩ = some (.int .i64 (pl.bt c first m)) := by rw [hms.row.cell (i := m) (by omega)]; simp [balUp]
      have g1 := hms.row.cell (i := m + 1) (by omega)
      have z1 := hms.row.frozen (m + 1)
      have hlt2 := hms.row.lt
      have hbd := pl.bt_bd c first m
      have HB : Hid (pl.bt c first (m + 1) = pl.bt c first m + pl.dl (c (first + m))) := by show pl.bt c first (m + 1) = _; rw [pl.bt]
      have q0 : (m : Int) < (en : Int) - (first : Int) := by omega
      have q1 : (first : Int) + (m : Int) < (len : Int) := by omega
      generalize hv : pl.bt c first m = V at g0 hbd HB
      clear hv
      generalize K (first + m) = k at t0 hcj
      generalize X (first + m) = x at t2 hcj
      generalize Q (first + m) = qq at t1
      generalize A (first + m) = aa at t3
      generalize E (first + m) = ee at t4
      generalize c (first + m) = cl at hcj HB
      obtain ⟨f1, f2, f3⟩ := sep_of k x cl hcj.symm
      have lbr : b < wr.heap.size := by omega
      clear ht ht' hc hcj
      by_cases o : cl = 2
      · subst o
        replace f2 : sepB k x [40] = true := f2
        clear f1 f3
        go_wp2_with (go_at_call 13; refine (sep_any _ _ _ _ _ _ _).mono ?_; rintro r w' ⟨rfl, rfl⟩)
        go_roundg (en - first - (m + 1))
        case measure => omega
        case rel => exact ⟨m + 1, by omega, rfl, by go_num, by first | exact bal_step (hms.alloc _) _ (by rw [HB.out]; rfl) | exact (bal_step hms _ (by rw [HB.out]; rfl)).alloc _⟩
      by_cases o3 : cl = 3
      · subst o3
        replace f2 : sepB k x [40] = false := f2
        replace f3 : sepB k x [41] = true := f3
        clear f1 o
        go_wp2_with (go_at_call 13; refine (sep_any _ _ _ _ _ _ _).mono ?_; rintro r w' ⟨rfl, rfl⟩)
        go_roundg (en - first - (m + 1))
        case measure => omega
        case rel => exact ⟨m + 1, by omega, rfl, by go_num, by first | exact bal_step ((hms.alloc _).alloc _) _ (by rw [HB.out]; rfl) | exact ((bal_step hms _ (by rw [HB.out]; rfl)).alloc _).alloc _⟩
      · replace f2 : sepB k x [40] = false := by rw [f2]; simpa using o
        replace f3 : sepB k x [41] = false := by rw [f3]; simpa using o3
        have HB2 : Hid (V = pl.bt c first (m + 1)) := by show V = _; rw [HB.out, show pl.dl cl = 0 by simp [pl.dl, o, o3]]; omega
        clear f1 o o3
        go_wp2_with (go_at_call 13; refine (sep_any _ _ _ _ _ _ _).mono ?_; rintro r w' ⟨rfl, rfl⟩)
        go_roundg (en - first - (m + 1))
        case measure => omega
        case rel => exact ⟨m + 1, by omega, rfl, by go_num, by first | exact bal_step ((hms.alloc _).alloc _) _ HB2.out | exact ((bal_step hms _ HB2.out).alloc _).alloc _⟩
    · obtain rfl : m = en - first := by omega
      have q0 : ¬ ((en - first : Nat) : Int) < (en : Int) - (first : Int) := by omega
      go_wp2_with fail
      go_loopg [14, 15] (i - first) (fun gk x y wq => ∃ j : Nat, first ≤ j ∧ j ≤ i ∧ gk = i - j ∧ y = .int .i64 j ∧ x = .int .i64 (pl.lastQ (pl.qB c first i) first (j - first)) ∧ Ms w wq (en - first + 1) (balUp c first (en - first)))
      case atStart => exact ⟨first, Nat.le_refl _, h1, rfl, rfl, by rw [Nat.sub_self]; rfl, hms⟩
      case round =>
        clear hms q0
        obtain ⟨j, hj1, hj2, rfl, rfl, rfl, hms⟩ := hrel
        generalize hLF : pl.lastQ (pl.qB c first i) first (j - first) = LF
        have HLF : Hid (pl.lastQ (pl.qB c first i) first (j - first) = LF) := hLF
        clear hLF
        by_cases hlt : j < i
        · have ht' := ht.below hms.bel
          have hjl : j < len := by omega
          have t0 := ht'.kd j hjl
          have t1 := ht'.ql j hjl
          have t2 := ht'.tx j hjl
          have t3 := ht'.pl j hjl
          have t4 := ht'.en j hjl
          have lb := ht.lt
          have hcj := hc.out j
          have g1 : wr.cell? ⟨w.heap.size, j + 1 - first, none⟩ = some (.int .i64 (pl.bt c first (j + 1 - first))) := by rw [hms.row.cell (i := j + 1 - first) (by omega)]; unfold balUp; rw [if_pos (by omega)]
          have g2 : wr.cell? ⟨w.heap.size, i - first, none⟩ = some (.int .i64 (pl.bt c first (i - first))) := by rw [hms.row.cell (i := i - first) (by omega)]; unfold balUp; rw [if_pos (by omega)]
          have hlt2 := hms.row.lt
          have lbr : b < wr.heap.size := by omega
          have q0 : (j : Int) < (i : Int) := by omega
          have q1 : (j : Int) < (len : Int) := by omega
          have q2 : (0 : Int) ≤ (j : Int) + 1 - (first : Int) := by omega
          have q3 : (j : Int) + 1 - (first : Int) < ((en - first + 1 : Nat) : Int) := by omega
          have q4 : (0 : Int) ≤ (i : Int) - (first : Int) := by omega
          have q5 : (i : Int) - (first : Int) < ((en - first + 1 : Nat) : Int) := by omega
          have HQ : Hid (∀ d, pl.bt c first (j + 1 - first) = d → ∀ d2, pl.bt c first (i - first) = d2 → pl.qB c first i j = ((c j == 1 || c j == 2) && (d == d2))) := by
            intro d hd d2 hd2; subst hd hd2; rfl
          generalize hB1 : pl.bt c first (j + 1 - first) = B1 at g1
          generalize hB2 : pl.bt c first (i - first) = B2 at g2
          have HQ2 : Hid (pl.qB c first i j = ((c j == 1 || c j == 2) && (B1 == B2))) := HQ.out B1 hB1 B2 hB2
          clear hB1 hB2 HQ
          have HST : Hid (pl.lastQ (pl.qB c first i) first (j + 1 - first) = if pl.qB c first i j then j + 1 else LF) := by show pl.lastQ _ _ _ = _; rw [pl.lastQ_step _ _ _ hj1, HLF.out]
          generalize hqb : pl.qB c first i j = qb at HQ2 HST
          clear hqb HLF
          generalize K j = k at t0 hcj
          generalize X j = x at t2 hcj
          generalize Q j = qq at t1
          generalize A j = aa at t3
          generalize E j = ee at t4
          generalize c j = cl at hcj HQ2
          obtain ⟨f1, f2, f3⟩ := sep_of k x cl hcj.symm
          clear ht ht' hc hcj f3
          go_upto_region 17 with fail
          go_cut [90] (fun v wx => v = .bool qb ∧ Ms w wx (en - first + 1) (balUp c first (en - first)))
          case first =>
            have hne : Nonempty Ext := ⟨⟨0, []⟩⟩
            have x1 := fun g => old_cell g1 hlt2 (.cells #[.int .u8 k, .bool qq, .string x, .int .i64 aa, .int .i64 ee] 36) g
            have x2 := fun g => old_cell g2 hlt2 (.cells #[.int .u8 k, .bool qq, .string x, .int .i64 aa, .int .i64 ee] 36) g
            have y0 := fun g => (tok_cells wr k qq x aa ee g).1
            have y1 := fun g => (tok_cells wr k qq x aa ee g).2.1
            have y2 := fun g => (tok_cells wr k qq x aa ee g).2.2.1
            have y3 := fun g => (tok_cells wr k qq x aa ee g).2.2.2.1
            have y4 := fun g => (tok_cells wr k qq x aa ee g).2.2.2.2
            clear t0 t1 t2 t3 t4 g1 g2
            by_cases o : cl = 1
            · subst o
              have F1 : Hid (sepB k x ({ data := #[44] } : ByteArray).toList = true) := by show sepB _ _ _ = _; rw [l44]; exact f1
              have HQ3 : Hid (qb = (B1 == B2)) := by have h := HQ2.out; show qb = (B1 == B2); simpa using h
              clear f1 f2 HQ2 HST
              refine wp_region_ext (by kernel_rfl) (by kernel_rfl) ?_
              repeat (go_big_quiet_step ((refine (sep_ext _ _ _ _ _ _ _ _).mono ?_; rintro r w' ⟨rfl, hg⟩; first | exact ⟨congrArg (fun z => Ending.returned (.bool z)) F1.out, hg⟩)))
              refine wpQuiet_nil ?_
              intro _ hw'
              obtain ⟨g, hw''⟩ := hw'
              subst hw''
              go_wp2_with fail
              go_meet
              exact ⟨by rw [HQ3.out], (hms.alloc _).ext _⟩
            by_cases o2 : cl = 2
            · subst o2
              have F1 : Hid (sepB k x ({ data := #[44] } : ByteArray).toList = false) := by show sepB _ _ _ = _; rw [l44]; exact f1
              have F2 : Hid (sepB k x ({ data := #[40] } : ByteArray).toList = true) := by show sepB _ _ _ = _; rw [l40]; exact f2
              have HQ3 : Hid (qb = (B1 == B2)) := by have h := HQ2.out; show qb = (B1 == B2); simpa using h
              clear f1 f2 HQ2 HST o
              refine wp_region_ext (by kernel_rfl) (by kernel_rfl) ?_
              repeat (go_big_quiet_step ((refine (sep_ext _ _ _ _ _ _ _ _).mono ?_; rintro r w' ⟨rfl, hg⟩; first | exact ⟨congrArg (fun z => Ending.returned (.bool z)) F1.out, hg⟩ | exact ⟨congrArg (fun z => Ending.returned (.bool z)) F2.out, hg⟩)))
              refine wpQuiet_nil ?_
              intro _ hw'
              obtain ⟨g, hw''⟩ := hw'
              subst hw''
              go_wp2_with fail
              go_meet
              exact ⟨by rw [HQ3.out], (hms.alloc _).ext _⟩
            · skip
              have F1 : Hid (sepB k x ({ data := #[44] } : ByteArray).toList = false) := by show sepB _ _ _ = _; rw [l44, f1]; simpa using o
              have F2 : Hid (sepB k x ({ data := #[40] } : ByteArray).toList = false) := by show sepB _ _ _ = _; rw [l40, f2]; simpa using o2
              have e1 : (cl == 1) = false := by simpa using o
              have e2 : (cl == 2) = false := by simpa using o2
              have HQ3 : Hid (qb = false) := by have h := HQ2.out; rw [e1, e2] at h; exact h
              clear e1 e2
              clear f1 f2 HQ2 HST o o2
              refine wp_region_ext (by kernel_rfl) (by kernel_rfl) ?_
              repeat (go_big_quiet_step ((refine (sep_ext _ _ _ _ _ _ _ _).mono ?_; rintro r w' ⟨rfl, hg⟩; first | exact ⟨congrArg (fun z => Ending.returned (.bool z)) F1.out, hg⟩ | exact ⟨congrArg (fun z => Ending.returned (.bool z)) F2.out, hg⟩)))
              refine wpQuiet_nil ?_
              intro _ hw'
              obtain ⟨g, hw''⟩ := hw'
              subst hw''
              go_wp2_with fail
              go_meet
              exact ⟨by rw [HQ3.out], (hms.alloc _).ext _⟩
          case rest =>
            clear t0 t1 t2 t3 t4 g1 g2 f1 f2 HQ2 hms
            obtain ⟨rfl, hms⟩ := hcut
            cases qb
            · go_wp2
              go_roundg (i - (j + 1))
              case measure => omega
              case rel => exact ⟨j + 1, by omega, by omega, rfl, by go_num, by rw [HST.out]; rfl, hms⟩
            · go_wp2
              go_roundg (i - (j + 1))
              case measure => omega
              case rel => exact ⟨j + 1, by omega, by omega, rfl, by go_num, by rw [HST.out]; rfl, hms⟩
        · obtain rfl : i = j := by omega
          have HLF2 : Hid (LF = F) := by have := HF.out; unfold pl.colF at this; exact HLF.out.symm.trans this
          have q0 : ¬ (i : Int) < (i : Int) := by omega
          clear HLF HF
          go_wp2_with fail
          clear q0
          go_loopg [17, 18] (en - (i + 1)) (fun gk x y wq => ∃ (p : Nat) (u : Int), i + 1 ≤ p ∧ p ≤ en ∧ gk = p - (i + 1) ∧ u = (p : Int) - 1 ∧ y = .int .i64 u ∧ x = .int .i64 (pl.firstQ (pl.qE c first i) en (en - p)) ∧ Ms w wq (en - first + 1) (balUp c first (en - first)))
          case atStart => exact ⟨en, (en : Int) - 1, by omega, Nat.le_refl _, rfl, rfl, rfl, by rw [Nat.sub_self]; rfl, hms⟩
          case round =>
            clear hms
            obtain ⟨p, u, hp1, hp2, rfl, hu, rfl, rfl, hms⟩ := hrel
            generalize hLE : pl.firstQ (pl.qE c first i) en (en - p) = LE
            have HLE : Hid (pl.firstQ (pl.qE c first i) en (en - p) = LE) := hLE
            clear hLE
            by_cases hlt : i + 1 < p
            · obtain ⟨j, rfl⟩ : ∃ j, p = j + 1 := ⟨p - 1, by omega⟩
              obtain rfl : u = (j : Int) := by omega
              clear hu
              have ht' := ht.below hms.bel
              have hjl : j < len := by omega
              have t0 := ht'.kd j hjl
              have t1 := ht'.ql j hjl
              have t2 := ht'.tx j hjl
              have t3 := ht'.pl j hjl
              have t4 := ht'.en j hjl
              have lb := ht.lt
              have hcj := hc.out j
              have g1 : wr.cell? ⟨w.heap.size, j - first, none⟩ = some (.int .i64 (pl.bt c first (j - first))) := by rw [hms.row.cell (i := j - first) (by omega)]; unfold balUp; rw [if_pos (by omega)]
              have g2 : wr.cell? ⟨w.heap.size, i + 1 - first, none⟩ = some (.int .i64 (pl.bt c first (i + 1 - first))) := by rw [hms.row.cell (i := i + 1 - first) (by omega)]; unfold balUp; rw [if_pos (by omega)]
              have hlt2 := hms.row.lt
              have lbr : b < wr.heap.size := by omega
              have q0 : (i : Int) < (j : Int) := by omega
              have q1 : (j : Int) < (len : Int) := by omega
              have q2 : (0 : Int) ≤ (j : Int) - (first : Int) := by omega
              have q3 : (j : Int) - (first : Int) < ((en - first + 1 : Nat) : Int) := by omega
              have q4 : (0 : Int) ≤ (i : Int) + 1 - (first : Int) := by omega
              have q5 : (i : Int) + 1 - (first : Int) < ((en - first + 1 : Nat) : Int) := by omega
              have HQ : Hid (∀ d, pl.bt c first (j - first) = d → ∀ d2, pl.bt c first (i + 1 - first) = d2 → pl.qE c first i j = ((c j == 1 || c j == 3) && (d == d2))) := by
                intro d hd d2 hd2; subst hd hd2; rfl
              generalize hB1 : pl.bt c first (j - first) = B1 at g1
              generalize hB2 : pl.bt c first (i + 1 - first) = B2 at g2
              have HQ2 : Hid (pl.qE c first i j = ((c j == 1 || c j == 3) && (B1 == B2))) := HQ.out B1 hB1 B2 hB2
              clear hB1 hB2 HQ
              have HST : Hid (pl.firstQ (pl.qE c first i) en (en - j) = if pl.qE c first i j then j else LE) := by show pl.firstQ _ _ _ = _; rw [pl.firstQ_step _ _ _ (by omega), HLE.out]
              generalize hqb : pl.qE c first i j = qb at HQ2 HST
              clear hqb HLE
              generalize K j = k at t0 hcj
              generalize X j = x at t2 hcj
              generalize Q j = qq at t1
              generalize A j = aa at t3
              generalize E j = ee at t4
              generalize c j = cl at hcj HQ2
              obtain ⟨f1, f2, f3⟩ := sep_of k x cl hcj.symm
              clear ht ht' hc hcj f2 HLF2 HE
              go_upto_region 24 with fail
              go_cut [126] (fun v wx => v = .bool qb ∧ Ms w wx (en - first + 1) (balUp c first (en - first)))
              case first =>
                have hne : Nonempty Ext := ⟨⟨0, []⟩⟩
                have x1 := fun g => old_cell g1 hlt2 (.cells #[.int .u8 k, .bool qq, .string x, .int .i64 aa, .int .i64 ee] 36) g
                have x2 := fun g => old_cell g2 hlt2 (.cells #[.int .u8 k, .bool qq, .string x, .int .i64 aa, .int .i64 ee] 36) g
                have y0 := fun g => (tok_cells wr k qq x aa ee g).1
                have y1 := fun g => (tok_cells wr k qq x aa ee g).2.1
                have y2 := fun g => (tok_cells wr k qq x aa ee g).2.2.1
                have y3 := fun g => (tok_cells wr k qq x aa ee g).2.2.2.1
                have y4 := fun g => (tok_cells wr k qq x aa ee g).2.2.2.2
                clear t0 t1 t2 t3 t4 g1 g2
                by_cases o : cl = 1
                · subst o
                  have F1 : Hid (sepB k x ({ data := #[44] } : ByteArray).toList = true) := by show sepB _ _ _ = _; rw [l44]; exact f1
                  have HQ3 : Hid (qb = (B1 == B2)) := by have h := HQ2.out; show qb = (B1 == B2); simpa using h
                  clear f1 f3 HQ2 HST
                  refine wp_region_ext (by kernel_rfl) (by kernel_rfl) ?_
                  repeat (go_big_quiet_step ((refine (sep_ext _ _ _ _ _ _ _ _).mono ?_; rintro r w' ⟨rfl, hg⟩; first | exact ⟨congrArg (fun z => Ending.returned (.bool z)) F1.out, hg⟩)))
                  refine wpQuiet_nil ?_
                  intro _ hw'
                  obtain ⟨g, hw''⟩ := hw'
                  subst hw''
                  go_wp2_with fail
                  go_meet
                  exact ⟨by rw [HQ3.out], (hms.alloc _).ext _⟩
                by_cases o2 : cl = 3
                · subst o2
                  have F1 : Hid (sepB k x ({ data := #[44] } : ByteArray).toList = false) := by show sepB _ _ _ = _; rw [l44]; exact f1
                  have F2 : Hid (sepB k x ({ data := #[41] } : ByteArray).toList = true) := by show sepB _ _ _ = _; rw [l41]; exact f3
                  have HQ3 : Hid (qb = (B1 == B2)) := by have h := HQ2.out; show qb = (B1 == B2); simpa using h
                  clear f1 f3 HQ2 HST o
                  refine wp_region_ext (by kernel_rfl) (by kernel_rfl) ?_
                  repeat (go_big_quiet_step ((refine (sep_ext _ _ _ _ _ _ _ _).mono ?_; rintro r w' ⟨rfl, hg⟩; first | exact ⟨congrArg (fun z => Ending.returned (.bool z)) F1.out, hg⟩ | exact ⟨congrArg (fun z => Ending.returned (.bool z)) F2.out, hg⟩)))
                  refine wpQuiet_nil ?_
                  intro _ hw'
                  obtain ⟨g, hw''⟩ := hw'
                  subst hw''
                  go_wp2_with fail
                  go_meet
                  exact ⟨by rw [HQ3.out], (hms.alloc _).ext _⟩
                · skip
                  have F1 : Hid (sepB k x ({ data := #[44] } : ByteArray).toList = false) := by show sepB _ _ _ = _; rw [l44, f1]; simpa using o
                  have F2 : Hid (sepB k x ({ data := #[41] } : ByteArray).toList = false) := by show sepB _ _ _ = _; rw [l41, f3]; simpa using o2
                  have e1 : (cl == 1) = false := by simpa using o
                  have e2 : (cl == 3) = false := by simpa using o2
                  have HQ3 : Hid (qb = false) := by have h := HQ2.out; rw [e1, e2] at h; exact h
                  clear e1 e2
                  clear f1 f3 HQ2 HST o o2
                  refine wp_region_ext (by kernel_rfl) (by kernel_rfl) ?_
                  repeat (go_big_quiet_step ((refine (sep_ext _ _ _ _ _ _ _ _).mono ?_; rintro r w' ⟨rfl, hg⟩; first | exact ⟨congrArg (fun z => Ending.returned (.bool z)) F1.out, hg⟩ | exact ⟨congrArg (fun z => Ending.returned (.bool z)) F2.out, hg⟩)))
                  refine wpQuiet_nil ?_
                  intro _ hw'
                  obtain ⟨g, hw''⟩ := hw'
                  subst hw''
                  go_wp2_with fail
                  go_meet
                  exact ⟨by rw [HQ3.out], (hms.alloc _).ext _⟩
              case rest =>
                clear t0 t1 t2 t3 t4 g1 g2 f1 f3 HQ2 hms
                obtain ⟨rfl, hms⟩ := hcut
                cases qb
                · go_wp2
                  go_roundg (j - (i + 1))
                  case measure => omega
                  case rel => exact ⟨j, (j : Int) - 1, by omega, by omega, rfl, rfl, rfl, by rw [HST.out]; rfl, hms⟩
                · go_wp2
                  go_roundg (j - (i + 1))
                  case measure => omega
                  case rel => exact ⟨j, (j : Int) - 1, by omega, by omega, rfl, rfl, rfl, by rw [HST.out]; rfl, hms⟩
            · obtain rfl : p = i + 1 := by omega
              have HLE2 : Hid (LE = e) := by have := HE.out; unfold pl.colE at this; exact HLE.out.symm.trans this
              have q0 : ¬ (i : Int) < u := by omega
              clear HLE HE hu hc ht
              go_wp2_with fail
              go_ret2
              exact ⟨ret2 HLF2.out HLE2.out, hms.bel⟩
end Go.Proofs.Qxb6602187a.mo
