import Derived.Test.YbulkcgegE2
import Derived.Deep.RegionHeld3
namespace Go.Proofs.Ybulkcgeg
open Go.RowKit Go.Maps Go.WideMaps
set_option linter.unusedVariables false
set_option linter.unusedSimpArgs false
set_option maxRecDepth 100000 in
set_option maxHeartbeats 2000000 in
theorem drop1 (c : Cx) (hc : c.ok) (D0 : DataW Unit) (hstart : DS c (c.w.alloc Wt.zero.obj) 0 c.f D0 Wt.zero) :
    Calls Yba.prog 16 #[.pointer (some ⟨c.b, c.o, none⟩), .int .u64 c.s] c.w fun e w' => e = .returned (.tuple #[.int .i64 ((c.n : Int) - kcnt c.keep c.n), (fst c.f (bst c.keep (ltI c.its) c.n)).agg, .int .i64 (dsum c.keep c.cost c.n)]) ∧ ∃ f' D, ES c w' c.n c.kc f' D (fst c.f (bst c.keep (ltI c.its) c.n)) ∧ HP ltW c.kc f' 0 := by
  obtain ⟨q1, q2, q3, q4, q5, q6, q7, q8, q9, q10, q11, q12⟩ := id hc
  have c1 : c.w.cell? ⟨c.b, c.o + 1, none⟩ = some (.int .i64 c.n) := by
    have := hstart.c1
    rwa [World.cell?_alloc_past _ _ _ q8] at this
  have HS := hide hstart
  clear hstart
  go_enter Yba.func16, Yba.ntmps16
  go_wp2
  go_loopw [4, 6, 8, 19] (fun d by_ kp i wr => ∃ (k : Nat) (f' : Nat → Wt) (D : DataW Unit), k ≤ c.n ∧ i = .int .i64 k ∧ d = .int .i64 ((k : Int) - kcnt c.keep k) ∧ by_ = .int .i64 (dsum c.keep c.cost k) ∧ kp = .int .i64 (kcnt c.keep k) ∧ DS c wr k f' D (fst c.f (bst c.keep (ltI c.its) k))) (fun _ _ _ i _ => c.n - (intOf i).toNat)
  case atStart => exact ⟨0, c.f, D0, Nat.zero_le _, rfl, rfl, rfl, rfl, HS.out⟩
  case round =>
    clear HS
    obtain ⟨k, f', D, hk, rfl, rfl, rfl, rfl, hds⟩ := hrel
    have hkc := kcnt_le c.keep k
    by_cases hlt : k < c.n
    · have hW := hds.heap.at_ k (by omega)
      rw [hds.rest k (Nat.le_refl _)] at hW
      obtain ⟨p, hp⟩ : ∃ p, p = c.K + k / 1024 := ⟨_, rfl⟩
      obtain ⟨oo, hoo⟩ : ∃ oo, oo = k % 1024 * 5 := ⟨_, rfl⟩
      rw [← hp, ← hoo] at hW
      have HPO := hide (And.intro hp hoo)
      obtain ⟨e0, e1, e2, e3, e4⟩ := hW
      have hce := hds.c0
      have HT := hide hds.heap.tab
      have hle : p < wr.heap.size := World.block_lt_of_cell? _ _ e0
      have HD := hide hds
      clear hds hp hoo
      cases hy : c.keep k with
      | true =>
        have hsq : c.s ≤ (c.f k).seq := by
          rw [(q11 k hlt).seq]; simpa [Cx.keep, keepB] using hy
        go_wp2_with (go_at_call 12; refine (at_at c.b c.o c.T c.K c.nc k p oo _ rfl HPO.out.1 HPO.out.2 _ q1 (by omega) hce HT.out).mono ?_; rintro e w1 ⟨rfl, rfl⟩)
        obtain ⟨W2, hW2⟩ : ∃ W2, W2 = w1.alloc (c.f k).obj := ⟨_, rfl⟩
        have HD2 := hide (show DS c W2 k f' D (fst c.f (bst c.keep (ltI c.its) k)) from by rw [hW2]; exact HD.out.below hc ((Below.refl _ _).alloc (Nat.le_refl _) _))
        have x0 : W2.cell? ⟨w1.heap.size, 0, none⟩ = some (.string (c.f k).id) := by rw [hW2]; simp
        have x1 : W2.cell? ⟨w1.heap.size, 1, none⟩ = some (.int .i64 (c.f k).due) := by rw [hW2]; simp
        have x2 : W2.cell? ⟨w1.heap.size, 2, none⟩ = some (.int .u64 (c.f k).seq) := by rw [hW2]; simp
        have x3 : W2.cell? ⟨w1.heap.size, 3, none⟩ = some (.slice (c.f k).pa (c.f k).pn (c.f k).pn) := by rw [hW2]; simp
        have x4 : W2.cell? ⟨w1.heap.size, 4, none⟩ = some (.slice (c.f k).ma (c.f k).mn (c.f k).mn) := by rw [hW2]; simp
        have hsz2 : W2.heap.size = w1.heap.size + 1 := by rw [hW2]; simp
        have hgt : c.w.heap.size < w1.heap.size := HD.out.sz
        have h2c0 := HD2.out.c0
        have HT2 := hide HD2.out.heap.tab
        have hnb : w1.heap.size < W2.heap.size := by omega
        clear HT hce e0 e1 e2 e3 e4 HPO HD hle
        rw [← hW2]
        clear hW2
        obtain ⟨kc, hkc'⟩ : ∃ kc, kc = kcnt c.keep k := ⟨_, rfl⟩
        obtain ⟨p2, hp2⟩ : ∃ p2, p2 = c.K + kc / 1024 := ⟨_, rfl⟩
        obtain ⟨o2, ho2⟩ : ∃ o2, o2 = kc % 1024 * 5 := ⟨_, rfl⟩
        have hWk := HD2.out.heap.at_ kc (by omega)
        rw [← hp2, ← ho2] at hWk
        obtain ⟨d0, d1, d2, d3, d4⟩ := hWk
        have hz : ∀ j, W2.frozen? ⟨p2, j, none⟩ = false := fun j => by rw [hp2]; exact HD2.out.heap.thaw _ _ (by omega)
        have FIN := hide ((HD2.out.keepStep hc hlt hy).drew hc)
        rw [← hkc'] at FIN hkc
        rw [← hp2, ← ho2] at FIN
        have hsq2 : p2 ≠ w1.heap.size := by omega
        have hkb : kc < c.nc * 1024 := by omega
        have HK := hide (And.intro hkc' (And.intro hp2 ho2))
        rw [← hkc']
        clear hkc' hp2 ho2
        go_region_held3 (fun w' => w'.cell? ⟨w1.heap.size, 0, none⟩ = some (.string (c.f k).id) ∧ w'.cell? ⟨w1.heap.size, 1, none⟩ = some (.int .i64 (c.f k).due) ∧ w'.cell? ⟨w1.heap.size, 2, none⟩ = some (.int .u64 (c.f k).seq) ∧ w'.cell? ⟨w1.heap.size, 3, none⟩ = some (.slice (c.f k).pa (c.f k).pn (c.f k).pn) ∧ w'.cell? ⟨w1.heap.size, 4, none⟩ = some (.slice (c.f k).ma (c.f k).mn (c.f k).mn)) (go_keep)
          (first | (go_at_call 12; refine (at_at c.b c.o c.T c.K c.nc kc p2 o2 _ rfl HK.out.2.1 HK.out.2.2 _ q1 hkb (by simpa using h2c0) (fun c h => by simpa using HT2.out c h)).mono ?_; rintro e w' ⟨rfl, rfl⟩))
        have a1 : ((k + 1 : Nat) : Int) - kcnt c.keep (k + 1) = (k : Int) - kc := by rw [kcnt_yes hy, ← HK.out.1]; omega
        have a2 : dsum c.keep c.cost (k + 1) = dsum c.keep c.cost k := by simp [dsum, hy]
        have a3 : kcnt c.keep (k + 1) = kc + 1 := by rw [kcnt_yes hy, ← HK.out.1]
        have a4 : bst c.keep (ltI c.its) (k + 1) = bst c.keep (ltI c.its) k := bst_keep hy
        have AA := hide (And.intro a1 (And.intro a2 (And.intro a3 a4)))
        clear a1 a2 a3 a4 x0 x1 x2 x3 x4 d0 d1 d2 d3 d4 hz
        all_goals go_wp2
        obtain ⟨a1, a2, a3, a4⟩ := AA.out
        go_roundw
        case rel => exact ⟨k + 1, _, D, by omega, by go_num, by rw [a1], by rw [a2], by rw [a3]; go_num, by rw [a4]; exact FIN.out⟩
        case measure => simp [intOf]; omega
      | false =>
        have hsq : (c.f k).seq < c.s := by
          rw [(q11 k hlt).seq]; have := hy; simp [Cx.keep, keepB] at this; omega
        have hcost := q12 k hlt
        have hfof := q11 k hlt
        have hnext := next_bd (keep := c.keep) (c := c.cost) (n := c.n) (fun i hi => cost_bounds _ (q12 i hi)) hlt hy
        have hbd := dsum_bd (keep := c.keep) (c := c.cost) (n := c.n) (fun i hi => cost_bounds _ (q12 i hi)) k (by omega)
        have hbd2 := dsum_bd (keep := c.keep) (c := c.cost) (n := c.n) (fun i hi => cost_bounds _ (q12 i hi)) c.n (by omega)
        have hcb := cost_bounds _ hcost
        have HCB := hide (And.intro hcost (And.intro hfof (And.intro hnext (And.intro hbd (And.intro hbd2 hcb)))))
        have v1 : 0 ≤ dsum c.keep c.cost k := hbd.1
        have v2 : dsum c.keep c.cost k ≤ 2000000 := by have := hbd.2.2.2; omega
        have v3 : 163 ≤ costOf (c.its k) := hcb.1
        have v4 : costOf (c.its k) ≤ 300 := hcb.2
        have v5 : tsum c.cost c.n ≤ 2000000 := by have := hbd2.2.2.1; omega
        have hidl : (c.f k).id.size ≤ maxLen := by rw [hfof.id]; show 3 ≤ maxLen; unfold maxLen; omega
        clear hcost hfof hnext hbd hbd2 hcb
        cases hbs : bst c.keep (ltI c.its) k with
        | none =>
          have hk0 : kcnt c.keep k = k := bst_none.1 hbs
          have hz0 : ((k : Int) - (kcnt c.keep k : Int) == 0) = true := by rw [hk0]; simp
          have HF := hide (HD.out.putFirst hc (c.f k))
          have hgt : c.w.heap.size < wr.heap.size := HD.out.sz
          obtain ⟨y0, y1, y2, y3, y4⟩ := HD.out.first
          simp only [Nat.zero_add] at y0 y1 y2 y3 y4
          have yz := HD.out.ffz
          have HK0 := hide hk0
          have Hbs := hide hbs
          clear hk0 hbs
          go_wp2_with (first | (go_at_call 12; refine (at_at c.b c.o c.T c.K c.nc k p oo _ rfl HPO.out.1 HPO.out.2 _ q1 (by omega) hce HT.out).mono ?_; rintro e w1 ⟨rfl, rfl⟩) | (go_at_call 20; refine (wcost_any (c.f k) k (c.its k) _ HCB.out.1 HCB.out.2.1).mono ?_; rintro e w2 ⟨rfl, rfl⟩))
          have hZ := ((HF.out.below hc ((Below.refl _ _).alloc (Nat.le_refl _) (c.f k).obj)).below hc ((Below.refl _ _).alloc (Nat.le_refl _) (c.f k).obj))
          refine (forget_any c.b c.o c.m c.N k (tsum c.cost c.n - dsum c.keep c.cost k) (c.f k) (c.its k) D _ HCB.out.1 HCB.out.2.1 hidl hZ.c2 hZ.c3 (hZ.bfz _) hZ.own HCB.out.2.2.1 (by omega)).mono ?_
          rintro e w3 ⟨rfl, fo, f3, fcb, fbf, ffr⟩
          have hidk : (c.f k).id = idOf k := HCB.out.2.1.id
          rw [hidk] at fo
          have FIN := hide (hZ.forget hc hlt hy fo f3 fcb fbf ffr)
          have a1 : ((k + 1 : Nat) : Int) - kcnt c.keep (k + 1) = (k : Int) - kcnt c.keep k + 1 := by rw [kcnt_no hy]; omega
          have a2 : dsum c.keep c.cost (k + 1) = dsum c.keep c.cost k + costOf (c.its k) := by simp [dsum, hy, Cx.cost]
          have a3 : kcnt c.keep (k + 1) = kcnt c.keep k := kcnt_no hy
          have a4 : bst c.keep (ltI c.its) (k + 1) = some k := bst_a hy Hbs.out
          have AA := hide (And.intro a1 (And.intro a2 (And.intro a3 a4)))
          clear a1 a2 a3 a4 fo f3 fcb fbf ffr hZ hidk
          go_wp2
          obtain ⟨a1, a2, a3, a4⟩ := AA.out
          go_roundw
          case rel => exact ⟨k + 1, _, _, by omega, by go_num, by rw [a1], by rw [a2], by rw [a3], by rw [a4]; exact FIN.out⟩
          case measure => simp [intOf]; omega
        | some jx =>
          obtain ⟨hjk, hjn⟩ := bst_lt hbs
          cases hlt2 : ltI c.its k jx with
          | true =>
            have hltw : ltW (c.f k) (c.f jx) = true := by rw [ltW_of (q11 k hlt) (q11 jx (by omega))]; exact hlt2
            have hkn : kcnt c.keep k ≠ k := fun e => by rw [bst_none.2 e] at hbs; cases hbs
            have hz0 : ((k : Int) - (kcnt c.keep k : Int) == 0) = false := by rw [beq_eq_false_iff_ne]; omega
            have HDj := hide (show DS c wr k f' D (c.f jx) from by have := HD.out; rw [hbs] at this; exact this)
            have hgt : c.w.heap.size < wr.heap.size := HD.out.sz
            have hgt2 : c.w.heap.size < wr.heap.size + 1 := by omega
            obtain ⟨y0, y1, y2, y3, y4⟩ := HDj.out.first
            simp only [Nat.zero_add] at y0 y1 y2 y3 y4
            have yz := HDj.out.ffz
            have Hbs := hide (And.intro hbs hlt2)
            clear hbs hlt2 HD hkn
            go_wp2_with (first | (go_at_call 12; refine (at_at c.b c.o c.T c.K c.nc k p oo _ rfl HPO.out.1 HPO.out.2 _ q1 (by omega) hce HT.out).mono ?_; rintro e w1 ⟨rfl, rfl⟩))
            refine (before_any (c.f k) (c.f jx) _).mono ?_
            rintro e w2 ⟨rfl, hb2⟩
            have HDw := hide ((HDj.out.below hc ((Below.refl _ _).alloc (Nat.le_refl _) (c.f k).obj)).below hc hb2)
            obtain ⟨hc1, hc2⟩ := bcell hb2
            have x0 : w2.cell? ⟨w1.heap.size, 0, none⟩ = some (.string (c.f k).id) := by rw [hc1 _ _ (by simp)]; simp
            have x1 : w2.cell? ⟨w1.heap.size, 1, none⟩ = some (.int .i64 (c.f k).due) := by rw [hc1 _ _ (by simp)]; simp
            have x2 : w2.cell? ⟨w1.heap.size, 2, none⟩ = some (.int .u64 (c.f k).seq) := by rw [hc1 _ _ (by simp)]; simp
            have x3 : w2.cell? ⟨w1.heap.size, 3, none⟩ = some (.slice (c.f k).pa (c.f k).pn (c.f k).pn) := by rw [hc1 _ _ (by simp)]; simp
            have x4 : w2.cell? ⟨w1.heap.size, 4, none⟩ = some (.slice (c.f k).ma (c.f k).mn (c.f k).mn) := by rw [hc1 _ _ (by simp)]; simp
            have hnb : w1.heap.size < w2.heap.size := by have := hb2.size; simp at this; omega
            have hne : w1.heap.size ≠ c.w.heap.size := by omega
            have hgt3 : c.w.heap.size < w2.heap.size := by omega
            clear hc1 hc2 hb2 y0 y1 y2 y3 y4 yz e0 e1 e2 e3 e4 hce HT HDj
            obtain ⟨y0, y1, y2, y3, y4⟩ := HDw.out.first
            simp only [Nat.zero_add] at y0 y1 y2 y3 y4
            have yz := HDw.out.ffz
            go_wp2_with (go_at_call 20; refine (wcost_any (c.f k) k (c.its k) _ HCB.out.1 HCB.out.2.1).mono ?_; rintro e w2x ⟨rfl, rfl⟩)
            have hZ := (HDw.out.putFirst hc (c.f k)).below hc ((Below.refl _ _).alloc (Nat.le_refl _) (c.f k).obj)
            refine (forget_any c.b c.o c.m c.N k (tsum c.cost c.n - dsum c.keep c.cost k) (c.f k) (c.its k) D _ HCB.out.1 HCB.out.2.1 hidl hZ.c2 hZ.c3 (hZ.bfz _) hZ.own HCB.out.2.2.1 (by omega)).mono ?_
            rintro e w3 ⟨rfl, fo, f3, fcb, fbf, ffr⟩
            have hidk : (c.f k).id = idOf k := HCB.out.2.1.id
            rw [hidk] at fo
            have FIN := hide (hZ.forget hc hlt hy fo f3 fcb fbf ffr)
            have a1 : ((k + 1 : Nat) : Int) - kcnt c.keep (k + 1) = (k : Int) - kcnt c.keep k + 1 := by rw [kcnt_no hy]; omega
            have a2 : dsum c.keep c.cost (k + 1) = dsum c.keep c.cost k + costOf (c.its k) := by simp [dsum, hy, Cx.cost]
            have a3 : kcnt c.keep (k + 1) = kcnt c.keep k := kcnt_no hy
            have a4 : bst c.keep (ltI c.its) (k + 1) = some k := bst_b hy Hbs.out.1 Hbs.out.2
            have AA := hide (And.intro a1 (And.intro a2 (And.intro a3 a4)))
            clear a1 a2 a3 a4 fo f3 fcb fbf ffr hZ hidk
            go_wp2
            obtain ⟨a1, a2, a3, a4⟩ := AA.out
            go_roundw
            case rel => exact ⟨k + 1, _, _, by omega, by go_num, by rw [a1], by rw [a2], by rw [a3], by rw [a4]; exact FIN.out⟩
            case measure => simp [intOf]; omega
          | false =>
            have hltw : ltW (c.f k) (c.f jx) = false := by rw [ltW_of (q11 k hlt) (q11 jx (by omega))]; exact hlt2
            have hkn : kcnt c.keep k ≠ k := fun e => by rw [bst_none.2 e] at hbs; cases hbs
            have hz0 : ((k : Int) - (kcnt c.keep k : Int) == 0) = false := by rw [beq_eq_false_iff_ne]; omega
            have HDj := hide (show DS c wr k f' D (c.f jx) from by have := HD.out; rw [hbs] at this; exact this)
            have hgt : c.w.heap.size < wr.heap.size := HD.out.sz
            have hgt2 : c.w.heap.size < wr.heap.size + 1 := by omega
            obtain ⟨y0, y1, y2, y3, y4⟩ := HDj.out.first
            simp only [Nat.zero_add] at y0 y1 y2 y3 y4
            have yz := HDj.out.ffz
            have Hbs := hide (And.intro hbs hlt2)
            clear hbs hlt2 HD hkn
            go_wp2_with (first | (go_at_call 12; refine (at_at c.b c.o c.T c.K c.nc k p oo _ rfl HPO.out.1 HPO.out.2 _ q1 (by omega) hce HT.out).mono ?_; rintro e w1 ⟨rfl, rfl⟩))
            refine (before_any (c.f k) (c.f jx) _).mono ?_
            rintro e w2 ⟨rfl, hb2⟩
            have HDw := hide ((HDj.out.below hc ((Below.refl _ _).alloc (Nat.le_refl _) (c.f k).obj)).below hc hb2)
            obtain ⟨hc1, hc2⟩ := bcell hb2
            have x0 : w2.cell? ⟨w1.heap.size, 0, none⟩ = some (.string (c.f k).id) := by rw [hc1 _ _ (by simp)]; simp
            have x1 : w2.cell? ⟨w1.heap.size, 1, none⟩ = some (.int .i64 (c.f k).due) := by rw [hc1 _ _ (by simp)]; simp
            have x2 : w2.cell? ⟨w1.heap.size, 2, none⟩ = some (.int .u64 (c.f k).seq) := by rw [hc1 _ _ (by simp)]; simp
            have x3 : w2.cell? ⟨w1.heap.size, 3, none⟩ = some (.slice (c.f k).pa (c.f k).pn (c.f k).pn) := by rw [hc1 _ _ (by simp)]; simp
            have x4 : w2.cell? ⟨w1.heap.size, 4, none⟩ = some (.slice (c.f k).ma (c.f k).mn (c.f k).mn) := by rw [hc1 _ _ (by simp)]; simp
            have hnb : w1.heap.size < w2.heap.size := by have := hb2.size; simp at this; omega
            have hne : w1.heap.size ≠ c.w.heap.size := by omega
            have hgt3 : c.w.heap.size < w2.heap.size := by omega
            clear hc1 hc2 hb2 y0 y1 y2 y3 y4 yz e0 e1 e2 e3 e4 hce HT HDj
            obtain ⟨y0, y1, y2, y3, y4⟩ := HDw.out.first
            simp only [Nat.zero_add] at y0 y1 y2 y3 y4
            have yz := HDw.out.ffz
            go_wp2_with (go_at_call 20; refine (wcost_any (c.f k) k (c.its k) _ HCB.out.1 HCB.out.2.1).mono ?_; rintro e w2x ⟨rfl, rfl⟩)
            have hZ := HDw.out.below hc ((Below.refl _ _).alloc (Nat.le_refl _) (c.f k).obj)
            refine (forget_any c.b c.o c.m c.N k (tsum c.cost c.n - dsum c.keep c.cost k) (c.f k) (c.its k) D _ HCB.out.1 HCB.out.2.1 hidl hZ.c2 hZ.c3 (hZ.bfz _) hZ.own HCB.out.2.2.1 (by omega)).mono ?_
            rintro e w3 ⟨rfl, fo, f3, fcb, fbf, ffr⟩
            have hidk : (c.f k).id = idOf k := HCB.out.2.1.id
            rw [hidk] at fo
            have FIN := hide (hZ.forget hc hlt hy fo f3 fcb fbf ffr)
            have a1 : ((k + 1 : Nat) : Int) - kcnt c.keep (k + 1) = (k : Int) - kcnt c.keep k + 1 := by rw [kcnt_no hy]; omega
            have a2 : dsum c.keep c.cost (k + 1) = dsum c.keep c.cost k + costOf (c.its k) := by simp [dsum, hy, Cx.cost]
            have a3 : kcnt c.keep (k + 1) = kcnt c.keep k := kcnt_no hy
            have a4 : bst c.keep (ltI c.its) (k + 1) = some jx := bst_c hy Hbs.out.1 Hbs.out.2
            have AA := hide (And.intro a1 (And.intro a2 (And.intro a3 a4)))
            clear a1 a2 a3 a4 fo f3 fcb fbf ffr hZ hidk
            go_wp2
            obtain ⟨a1, a2, a3, a4⟩ := AA.out
            go_roundw
            case rel => exact ⟨k + 1, _, _, by omega, by go_num, by rw [a1], by rw [a2], by rw [a3], by rw [a4]; exact FIN.out⟩
            case measure => simp [intOf]; omega
    · obtain rfl : k = c.n := by omega
      have HE := hide (hds.done hc)
      have hcc := hds.c1
      clear hds
      go_wp2
      go_loopw [11] (fun i wr => ∃ (k : Nat) (f' : Nat → Wt), c.kc ≤ k ∧ k ≤ c.n ∧ i = .int .i64 k ∧ ES c wr k c.n f' D (fst c.f (bst c.keep (ltI c.its) c.n))) (fun i _ => c.n - (intOf i).toNat)
      case atStart => exact ⟨c.kc, f', Nat.le_refl _, c.kc_le, rfl, HE.out⟩
      case round =>
        clear HE hcc
        obtain ⟨k, f2, hk1, hk2, rfl, hes⟩ := hrel
        have hcc := hes.c1
        by_cases hlt2 : k < c.n
        · obtain ⟨p, hp⟩ : ∃ p, p = c.K + k / 1024 := ⟨_, rfl⟩
          obtain ⟨oo, hoo⟩ : ∃ oo, oo = k % 1024 * 5 := ⟨_, rfl⟩
          have hW := hes.heap.at_ k (by omega)
          rw [← hp, ← hoo] at hW
          obtain ⟨e0, e1, e2, e3, e4⟩ := hW
          have hz : ∀ j, wr.frozen? ⟨p, j, none⟩ = false := fun j => by rw [hp]; exact hes.heap.thaw _ _ (by omega)
          have FIN := hide (hes.zeroStep hc hlt2 hk1)
          rw [← hp, ← hoo] at FIN
          have HPO := hide (And.intro hp hoo)
          have hce := hes.c0
          have HT := hide hes.heap.tab
          clear hp hoo hes
          go_wp2_with (go_at_call 12; refine (at_at c.b c.o c.T c.K c.nc k p oo _ rfl HPO.out.1 HPO.out.2 _ q1 (by omega) hce HT.out).mono ?_; rintro e w1 ⟨rfl, rfl⟩)
          go_roundw
          case rel => exact ⟨k + 1, _, by omega, by omega, by go_num, FIN.out⟩
          case measure => simp [intOf]; omega
        · obtain rfl : k = c.n := by omega
          have HE2 := hide hes
          have hz := hes.bfz (c.o + 1)
          have HN := hide (hes.setN (nv' := c.kc) hc)
          clear hes
          go_wp2_with fail
          refine (init_any c.b c.o c.T c.K c.nc c.kc f2 _ q1 (by have := c.kc_le; omega) q4 (Or.inr q6) HN.out.c0 HN.out.c1 HN.out.heap).mono ?_
          rintro e w3 ⟨rfl, ⟨f3, g1, g2, g3⟩, g4⟩
          have HFin := hide (And.intro (HN.out.init hc g1 g3 g4) g2)
          clear g1 g2 g3 g4 HN HE2 hz hcc
          obtain ⟨y0, y1, y2, y3, y4⟩ := HFin.out.1.first
          simp only [Nat.zero_add] at y0 y1 y2 y3 y4
          have yz := HFin.out.1.ffz
          obtain ⟨s0, s1, s2, s3, s4⟩ := HFin.out.1.first.selfs
          go_wp2_with fail
          go_region
          all_goals go_wp2
          exact bodyPost_ret (v := .tuple #[.int .i64 ((c.n : Int) - kcnt c.keep c.n), (fst c.f (bst c.keep (ltI c.its) c.n)).agg, .int .i64 (dsum c.keep c.cost c.n)]) (by simp [results, Yba.results16, go_sem, y0, y1, y2, y3, y4]) rfl ⟨rfl, f3, D, HFin.out.1.below hc ((Below.refl _ _).drew), HFin.out.2⟩
end Go.Proofs.Ybulkcgeg
