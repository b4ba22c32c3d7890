import Derived.Test.YbulkcgegF2b
import Derived.Deep.DeepCutAuto
namespace Go.Proofs.Ybulkcgeg
open Go.RowKit Go.Maps Go.WideMaps
set_option linter.unusedVariables false
set_option linter.unusedSimpArgs false
theorem bdrewN {B n : Nat} {a w : World} (h : Below B a w) : Below B a (w.drewN n) := ⟨h.os, h.tape, h.output, h.size, h.block⟩
theorem L1.below {c : Cx} {hB : Nat} {wr w2 : World} {k : Nat} {D : DataW Unit} (h : L1 c hB wr k D) (hb : Below wr.heap.size wr w2) : L1 c hB w2 k D :=
  ⟨h.heap.below hb, cell_later hb h.h0, cell_later hb h.h1, ownsIds_below h.own hb, h.has, h.size, h.bel.trans (hb.mono h.bel.size)⟩
theorem zero29 (w : World) : (zeroValue 29).run Yba.prog w = .ok (.agg #[]) w := by kernel_rfl
theorem look_id {W : World} {m N k : Nat} {D : DataW Unit} {x : Bool} (h : OwnsIds W m N D) (hx : Maps.has D (idLit (idOf k)) = x) : (Instr.lookup 28 (.map (some m)) (.string (idOf k)) true).run Yba.prog W = .ok (.tuple #[.agg #[], .bool x]) W := by
  obtain ⟨v, ps, hrun, hv⟩ := World.ownsMap.look_ok (t := 28) (e := 29) (key := .string (idOf k)) h klaw Yba.underlying28 (zero29 W) unitElem_mk (keyOf_string_mk Yba.underlying9 (by show 3 ≤ maxLen; unfold maxLen; omega))
  obtain ⟨rfl, _⟩ := unitElem_inv hv
  subst hx
  exact hrun
theorem Yba.info4 : (Yba.prog.info? 4).map (fun i => (i.zero, i.size, i.bytes)) = some (some (.bool false), 1, 1) := by kernel_rfl
def noBools (n : Nat) : Array Value := madeCells (Value.bool false).cells n
theorem mkBools (w : World) (n : Nat) (h : n ≤ 4096) : (Instr.makeSlice 61 (.int .i64 n) (.int .i64 n)).run Yba.prog w = .ok (.slice (some ⟨w.heap.size, 0, none⟩) n n) (w.alloc (.cells (noBools n) 4)) := by
  obtain ⟨i0, hi, hz0, hz1, hz2⟩ := info_parts Yba.info4
  have := run_make w 61 4 i0 _ Yba.underlying61 hi hz0 .i64 .i64 n n (by omega) (Int.le_refl _) (by rw [hz2]; omega) (by omega)
  rw [hz1, Int.toNat_natCast, Nat.mul_one] at this; exact this
theorem noBools_get (n x : Nat) (h : x < n) : (noBools n)[x]? = some (.bool false) := by
  simp [noBools, madeCells, Value.cells, Nat.mod_one, h]
theorem zero_yes2 (t : Wt) (h : t = Wt.zero) (w : World) :
    Calls Yba.prog 10 #[.agg #[.string t.id, .int .i64 t.due, .int .u64 t.seq, .slice t.pa t.pn t.pn, .slice t.ma t.mn t.mn]] w fun e w' => e = .returned (.bool true) ∧ Below w.heap.size w w' := by
  subst h
  refine (zero_yes w).mono ?_
  rintro e w' ⟨rfl, rfl⟩
  exact ⟨rfl, (Below.refl _ _).alloc (Nat.le_refl _) _⟩
set_option maxRecDepth 100000 in
set_option maxHeartbeats 400000 in
theorem fresh_big (a : Option Addr) (len cap : Nat) (s ex : Int) (w : World) (h : 4096 < len) :
    Calls Yba.prog 3 #[.slice a len cap, .int .u64 s, .int .i64 ex] w fun e w' => e = .returned (.bool true) ∧ Below w.heap.size w w' := by
  go_enter Yba.func3, Yba.ntmps3
  go_wp2
  go_ret
  exact ⟨rfl, Below.refl _ _⟩
set_option maxRecDepth 100000 in
set_option maxHeartbeats 4000000 in
theorem fresh_any (a : Option Addr) (b off len cap : Nat) (its : Nat → Item) (s ex : Int) (w : World) (hlen : len ≤ 4096) (ha : 0 < len → a = some ⟨b, off, none⟩) (hit : ItemsAt w b off len its) :
    Calls Yba.prog 3 #[.slice a len cap, .int .u64 s, .int .i64 ex] w fun e w' => e = .returned (.bool true) ∧ Below w.heap.size w w' := by
  have hmm := @run_makeMap Yba.prog
  go_enter Yba.func3, Yba.ntmps3
  go_wp2_with (go_at_call 5; refine (heap_any a b off len cap ((len + 1023) / 1024) its _ hlen (by omega) (by omega) ha hit).mono ?_; rintro e w1 ⟨rfl, ⟨f, hf, hof⟩, hsz, hb⟩)
  obtain ⟨c, hcdef⟩ : ∃ c : Cx, c = { b := 0, o := 0, T := w.heap.size + 1, K := w.heap.size + 2, nc := (len + 1023) / 1024, n := len, m := w1.heap.size + 1, N := len, f := f, its := its, s := s, w := w } := ⟨_, rfl⟩
  have HL0 : Hid (L1 c w1.heap.size ((w1.alloc (.cells #[.slice (some ⟨w.heap.size + 1, 0, none⟩) ((len + 1023) / 1024) ((len + 1023) / 1024), .int .i64 len] 26)).alloc (.map #[] 0)) 0 (.map [])) := by
    rw [hcdef]
    have hbb : Below w1.heap.size w1 ((w1.alloc (.cells #[.slice (some ⟨w.heap.size + 1, 0, none⟩) ((len + 1023) / 1024) ((len + 1023) / 1024), .int .i64 len] 26)).alloc (.map #[] 0)) := ((Below.refl _ _).alloc (Nat.le_refl _) _).alloc (by simp) _
    exact ⟨hf.below hbb, by simp [World.cell?_alloc_past], by simp [World.cell?_alloc_past], (by have h0 := World.ownsMap_made (w1.alloc (.cells #[.slice (some ⟨w.heap.size + 1, 0, none⟩) ((len + 1023) / 1024) ((len + 1023) / 1024), .int .i64 len] 26)) Yba.prog 9 (unitElem (H := Unit)); rw [World.size_alloc] at h0; exact h0), fun i hi => by simp [Maps.has], rfl, hb.trans (hbb.mono hb.size)⟩
  have hok : ∀ i, i < len → 163 ≤ c.cost i ∧ c.cost i ≤ 300 := fun i hi => by rw [hcdef]; exact cost_bounds _ (hit.ok i hi)
  have HOK := hide hok
  clear hok
  have HC := hide hcdef
  clear hcdef
  have HF := hide (And.intro hf (And.intro hof (And.intro hsz hb)))
  clear hf hof hb hmm
  go_loopw [10, 11] (fun t i wr => ∃ (k : Nat) (D : DataW Unit), k ≤ len ∧ i = .int .i64 k ∧ t = .int .i64 (tsum c.cost k) ∧ L1 c w1.heap.size wr k D) (fun _ i _ => len - (intOf i).toNat)
  case atStart => exact ⟨0, .map [], Nat.zero_le _, rfl, rfl, HL0.out⟩
  case round =>
    clear HL0
    obtain ⟨k, D, hk, rfl, rfl, hl⟩ := hrel
    have hbd := dsum_bd (keep := fun _ => true) (c := c.cost) HOK.out k hk
    have v1 : 0 ≤ tsum c.cost k := by omega
    have v2 : tsum c.cost k ≤ 2000000 := by omega
    have HL := hide hl
    by_cases hlt : k < len
    · as_aux_lemma =>
        obtain rfl := ha (by omega)
        clear ha
        have hbl : b < w.heap.size := hit.lt (by omega)
        have hsw := hl.bel.size
        have hmlt : w1.heap.size + 1 < wr.heap.size := by have := hl.own.lt; rw [HC.out] at this; exact this
        obtain ⟨w2, hrun, hown2, hgr⟩ := World.ownsMap.update (t := 28) (e := 29) (key := .string (idOf k)) (val := .agg #[]) (World.ownsMap.alloc hl.own (.cells #[.int .u8 (97 + (k : Int) % 26), .int .u8 (97 + (k : Int) / 26 % 26), .int .u8 (97 + (k : Int) / 676 % 26)] 5)) klaw Yba.underlying28 (by unfold maxLen; omega) (keyOf_string_mk Yba.underlying9 (by show 3 ≤ maxLen; unfold maxLen; omega)) unitElem_mk
        have hl2 : L1 c w1.heap.size w2 (k + 1) (D.put (idLit (idOf k)) (.agg [])) := by
          refine hl.step (w1 := wr.alloc (.cells #[.int .u8 (97 + (k : Int) % 26), .int .u8 (97 + (k : Int) / 26 % 26), .int .u8 (97 + (k : Int) / 676 % 26)] 5)) ?_ ?_ ?_ ?_ ?_ ?_ ?_ ((Below.refl _ _).alloc (Nat.le_refl _) _) hgr hown2 <;> (rw [HC.out]; show _; simp only; omega)
        have hbw : c.w = w := by rw [HC.out]
        have hbel2 := hl2.bel
        rw [hbw] at hbel2
        have d0 : w2.cell? ⟨b, off + k * 4, none⟩ = some (.int .i64 (its k).due) := (hbel2.cell (by exact hbl)).trans (hit.c0 k hlt)
        have d1 : w2.cell? ⟨b, off + k * 4 + 1, none⟩ = some (.int .u64 (its k).seq) := (hbel2.cell (by exact hbl)).trans (hit.c1 k hlt)
        have d2 : w2.cell? ⟨b, off + k * 4 + 2, none⟩ = some (.int .u8 (its k).mem) := (hbel2.cell (by exact hbl)).trans (hit.c2 k hlt)
        have d3 : w2.cell? ⟨b, off + k * 4 + 3, none⟩ = some (.int .u8 (its k).parts) := (hbel2.cell (by exact hbl)).trans (hit.c3 k hlt)
        obtain ⟨o1, o2, o3, o4⟩ := hit.ok k hlt
        have hm28 : c.m = w1.heap.size + 1 := by rw [HC.out]
        rw [hm28] at hrun
        have hcost := cost_bounds _ (hit.ok k hlt)
        have v3 : 163 ≤ costOf ⟨(its k).due, (its k).seq, (its k).mem, (its k).parts⟩ := hcost.1
        have v4 : costOf ⟨(its k).due, (its k).seq, (its k).mem, (its k).parts⟩ ≤ 300 := hcost.2
        have hcc : tsum c.cost (k + 1) = tsum c.cost k + costOf (its k) := by rw [tsum_succ, HC.out]; rfl
        have HCC := hide hcc
        have HL2 := hide hl2
        clear hl hl2 hbel2 hbw hcost hcc hown2 hgr hm28 hbd hit
        go_wp2_with (first | (go_at_call 6; refine (id_any k _ (by omega)).mono ?_; rintro e w' ⟨rfl, rfl⟩) | (go_at_call 7; refine (cost_any _ _ _ _ _ o1 o2 o3 o4).mono ?_; rintro e w' ⟨rfl, rfl⟩))
        go_roundw
        case rel => exact ⟨k + 1, _, by omega, by go_num, by rw [HCC.out], HL2.out.below ((Below.refl _ _).alloc (Nat.le_refl _) _)⟩
        case measure => simp [intOf]; omega
    · obtain rfl : len = k := by omega
      have h0 := hl.h0
      have h1 := hl.h1
      rw [show c.T = w.heap.size + 1 by rw [HC.out], show c.nc = (len + 1023) / 1024 by rw [HC.out]] at h0
      rw [show c.n = len by rw [HC.out]] at h1
      obtain ⟨q, hq⟩ : ∃ q : Cx, q = { c with b := wr.heap.size } := ⟨_, rfl⟩
      have hcost : q.cost = c.cost := by rw [hq]; rfl
      have HP0 : Hid (PreQ q (wr.alloc (Obj.cells #[Value.slice (some { block := w.heap.size + 1, off := 0 }) ((len + 1023) / 1024) ((len + 1023) / 1024), Value.int IntKind.i64 ↑len, Value.map (some (w1.heap.size + 1)), Value.int IntKind.i64 (tsum c.cost len), Value.slice none 0 0, Value.int IntKind.i64 0, Value.slice none 0 0, Value.nilFunc, Value.int IntKind.i64 0, Value.nilFunc, Value.int IntKind.i64 0, Value.map none, Value.int IntKind.i64 0, Value.slice none 0 0, Value.pointer none, Value.int IntKind.u64 0, Value.int IntKind.i64 (wrap64 (ex + tsum c.cost len))] 48)) (wrap64 (ex + tsum c.cost len)) D) := by
        have hbb : ∀ o, Below wr.heap.size wr (wr.alloc o) := fun o => (Below.refl _ _).alloc (Nat.le_refl _) _
        have hlb := hl.below (hbb (Obj.cells #[Value.slice (some { block := w.heap.size + 1, off := 0 }) ((len + 1023) / 1024) ((len + 1023) / 1024), Value.int IntKind.i64 ↑len, Value.map (some (w1.heap.size + 1)), Value.int IntKind.i64 (tsum c.cost len), Value.slice none 0 0, Value.int IntKind.i64 0, Value.slice none 0 0, Value.nilFunc, Value.int IntKind.i64 0, Value.nilFunc, Value.int IntKind.i64 0, Value.map none, Value.int IntKind.i64 0, Value.slice none 0 0, Value.pointer none, Value.int IntKind.u64 0, Value.int IntKind.i64 (wrap64 (ex + tsum c.cost len))] 48))
        have hqb : q.b = wr.heap.size := by rw [hq]
        refine ⟨?_, ?_, ?_, ?_, ?_, ?_, ?_, ?_, fun j => ?_, ?_, fun i hi => ?_, ?_, ?_⟩
        · rw [hq]; exact hlb.heap
        · rw [hqb, hq, HC.out]; simp
        · rw [hqb, hq, HC.out]; simp
        · rw [hqb, hq, HC.out]; simp
        · rw [hqb, hcost, hq, HC.out]; simp
        · rw [hqb]; simp
        · rw [hqb]; simp
        · rw [hqb]; simp
        · rw [hqb]; simp
        · have := hlb.own; rw [hq]; rw [HC.out] at this ⊢; exact this
        · rw [hq] at hi; rw [hlb.has i hi]; rw [HC.out] at hi; simpa using hi
        · rw [hlb.size, hq, HC.out]
        · rw [hq]; exact hlb.bel
      have hlw := hl.bel.size
      have hmw := hl.own.lt
      have HQ := hide hq
      have HLB : Hid (c.w.heap.size ≤ wr.heap.size ∧ c.m < wr.heap.size) := ⟨hlw, hmw⟩
      obtain ⟨qb, hqb⟩ : ∃ qb, wr.heap.size = qb := ⟨_, rfl⟩
      clear hl hbd hq hlw hmw hcost HL
      go_wp2
      go_loopw [13, 14, 15, 16, 17] (fun d x kp by_ i wr => ∃ (k : Nat), k ≤ len ∧ i = .int .i64 k ∧ d = .int .i64 ((k : Int) - kcnt q.keep k) ∧ x = .int .i64 (bstI (bst q.keep (ltI q.its) k)) ∧ kp = .int .i64 (kcnt q.keep k) ∧ by_ = .int .i64 (dsum q.keep q.cost k) ∧ PreQ q wr (wrap64 (ex + tsum c.cost len)) D) (fun _ _ _ _ i _ => len - (intOf i).toNat)
      case atStart => exact ⟨0, Nat.zero_le _, rfl, rfl, rfl, rfl, rfl, HP0.out⟩
      case round =>
        clear HP0
        obtain ⟨k, hk, rfl, rfl, rfl, rfl, rfl, hpq⟩ := hrel
        have hkc := kcnt_le q.keep k
        have hqc : q.cost = fun i => costOf (its i) := by rw [HQ.out, HC.out]; rfl
        have hbd := dsum_bd (keep := q.keep) (c := q.cost) (n := len) (fun i hi => by rw [hqc]; exact cost_bounds _ (hit.ok i hi)) k hk
        have u1 : 0 ≤ dsum q.keep q.cost k := hbd.1
        have u2 : dsum q.keep q.cost k ≤ 2000000 := by have := hbd.2.2.2; omega
        by_cases hlt2 : k < len
        · as_aux_lemma =>
            obtain rfl := ha (by omega)
            clear ha
            have hbl : b < w.heap.size := hit.lt (by omega)
            have hqw : q.w = w := by rw [HQ.out, HC.out]
            have hbel := hpq.bel
            rw [hqw] at hbel
            have hsw : w.heap.size ≤ wr.heap.size := hbel.size
            have gb : b < wr.heap.size := by omega
            have gb1 : b < wr.heap.size + 1 := by omega
            have d0 : wr.cell? ⟨b, off + k * 4, none⟩ = some (.int .i64 (its k).due) := (hbel.cell (by exact hbl)).trans (hit.c0 k hlt2)
            have d1 : wr.cell? ⟨b, off + k * 4 + 1, none⟩ = some (.int .u64 (its k).seq) := (hbel.cell (by exact hbl)).trans (hit.c1 k hlt2)
            have d2 : wr.cell? ⟨b, off + k * 4 + 2, none⟩ = some (.int .u8 (its k).mem) := (hbel.cell (by exact hbl)).trans (hit.c2 k hlt2)
            have d3 : wr.cell? ⟨b, off + k * 4 + 3, none⟩ = some (.int .u8 (its k).parts) := (hbel.cell (by exact hbl)).trans (hit.c3 k hlt2)
            obtain ⟨o1, o2, o3, o4⟩ := hit.ok k hlt2
            have hcb := cost_bounds _ (hit.ok k hlt2)
            have v3 : 163 ≤ costOf ⟨(its k).due, (its k).seq, (its k).mem, (its k).parts⟩ := hcb.1
            have v4 : costOf ⟨(its k).due, (its k).seq, (its k).mem, (its k).parts⟩ ≤ 300 := hcb.2
            have HP := hide hpq
            have HIT := hide (And.intro hit (And.intro hbel hbl))
            have hkeep : q.keep k = decide (s ≤ (its k).seq) := by rw [HQ.out, HC.out]; rfl
            have HQC := hide hqc
            clear hpq hbel hbd hqc hcb hqw hit
            by_cases hy : s ≤ (its k).seq
            · have hky : q.keep k = true := by rw [hkeep]; simpa using hy
              have a1 : ((k + 1 : Nat) : Int) - kcnt q.keep (k + 1) = (k : Int) - kcnt q.keep k := by rw [kcnt_yes hky]; omega
              have a2 : bst q.keep (ltI q.its) (k + 1) = bst q.keep (ltI q.its) k := bst_keep hky
              have a3 : kcnt q.keep (k + 1) = kcnt q.keep k + 1 := kcnt_yes hky
              have a4 : dsum q.keep q.cost (k + 1) = dsum q.keep q.cost k := by simp [dsum, hky]
              have AA := hide (And.intro a1 (And.intro a2 (And.intro a3 a4)))
              clear a1 a2 a3 a4 hkeep hky
              go_wp2
              obtain ⟨a1, a2, a3, a4⟩ := AA.out
              go_roundw
              case rel => exact ⟨k + 1, by omega, by go_num, by rw [a1], by rw [a2], by rw [a3]; go_num, by rw [a4], HP.out.below ((Below.refl _ _).alloc (Nat.le_refl _) _)⟩
              case measure => simp [intOf]; omega
            · have hky : q.keep k = false := by rw [hkeep]; simp; omega
              have hy' : (its k).seq < s := by omega
              have a1 : ((k + 1 : Nat) : Int) - kcnt q.keep (k + 1) = (k : Int) - kcnt q.keep k + 1 := by rw [kcnt_no hky]; omega
              have a3 : kcnt q.keep (k + 1) = kcnt q.keep k := kcnt_no hky
              have a4 : dsum q.keep q.cost (k + 1) = dsum q.keep q.cost k + costOf (its k) := by simp [dsum, hky, HQC.out]
              have AA := hide (And.intro a1 (And.intro a3 a4))
              clear a1 a3 a4 hkeep hy
              cases hbs : bst q.keep (ltI q.its) k with
              | none =>
                have AB := hide (bst_a hky hbs)
                clear hbs hky
                rw [show bstI none = -1 from rfl]
                go_wp2
                go_quiet (fail)
                go_wp2_with (go_at_call 7; refine (cost_any _ _ _ _ _ o1 o2 o3 o4).mono ?_; rintro e w' ⟨rfl, rfl⟩)
                obtain ⟨a1, a3, a4⟩ := AA.out
                go_roundw
                case rel => exact ⟨k + 1, by omega, by go_num, by rw [a1], by rw [AB.out]; rfl, by rw [a3], by rw [a4], HP.out.below (by repeat (first | exact Below.refl _ _ | refine bdrewN ?_ | refine Below.alloc ?_ (by simp) _))⟩
                case measure => simp [intOf]; omega
              | some jx =>
                obtain ⟨hjk, _⟩ := bst_lt hbs
                have hjl : jx < len := by omega
                have hjl2 : (jx : Int) < len := by omega
                have hj0 : ¬ (jx : Int) < 0 := by omega
                have hj0' : decide ((jx : Int) < 0) = false := by simp
                obtain ⟨hit, hbel, hbl'⟩ := HIT.out
                have j0 : wr.cell? ⟨b, off + jx * 4, none⟩ = some (.int .i64 (its jx).due) := (hbel.cell (by exact hbl)).trans (hit.c0 jx hjl)
                have j1 : wr.cell? ⟨b, off + jx * 4 + 1, none⟩ = some (.int .u64 (its jx).seq) := (hbel.cell (by exact hbl)).trans (hit.c1 jx hjl)
                clear hit hbel hbl'
                cases hl : ltI q.its k jx with
                | true =>
                  have hl' : lessB (its k).due (its k).seq (its jx).due (its jx).seq = true := by rw [← hl, HQ.out, HC.out]; rfl
                  have AB := hide (bst_b hky hbs hl)
                  clear hbs hky hl
                  rw [show bstI (some jx) = (jx : Int) from rfl]
                  go_wp2
                  go_quiet ((go_at_call 8; exact Calls.quiet_of_same (less_any _ _ _ _ _)))
                  go_wp2_with (go_at_call 7; refine (cost_any _ _ _ _ _ o1 o2 o3 o4).mono ?_; rintro e w' ⟨rfl, rfl⟩)
                  obtain ⟨a1, a3, a4⟩ := AA.out
                  go_roundw
                  case rel => exact ⟨k + 1, by omega, by go_num, by rw [a1], by rw [AB.out]; rfl, by rw [a3], by rw [a4], HP.out.below (by repeat (first | exact Below.refl _ _ | refine bdrewN ?_ | refine Below.alloc ?_ (by simp) _))⟩
                  case measure => simp [intOf]; omega
                | false =>
                  have hl' : lessB (its k).due (its k).seq (its jx).due (its jx).seq = false := by rw [← hl, HQ.out, HC.out]; rfl
                  have AB := hide (bst_c hky hbs hl)
                  clear hbs hky hl
                  rw [show bstI (some jx) = (jx : Int) from rfl]
                  go_wp2
                  go_quiet ((go_at_call 8; exact Calls.quiet_of_same (less_any _ _ _ _ _)))
                  go_wp2_with (go_at_call 7; refine (cost_any _ _ _ _ _ o1 o2 o3 o4).mono ?_; rintro e w' ⟨rfl, rfl⟩)
                  obtain ⟨a1, a3, a4⟩ := AA.out
                  go_roundw
                  case rel => exact ⟨k + 1, by omega, by go_num, by rw [a1], by rw [AB.out]; rfl, by rw [a3], by rw [a4], HP.out.below (by repeat (first | exact Below.refl _ _ | refine bdrewN ?_ | refine Below.alloc ?_ (by simp) _))⟩
                  case measure => simp [intOf]; omega
        · obtain rfl : len = k := by omega
          have HQC := hide hqc
          clear hbd hqc
          obtain ⟨wq, rfl⟩ : ∃ wq, wq = wr := ⟨_, rfl⟩
          obtain ⟨qd, hqd⟩ : ∃ qd : Cx, qd = { q with w := wq.alloc Wt.zero.obj } := ⟨_, rfl⟩
          have hqe : qd = { b := qb, o := 0, T := w.heap.size + 1, K := w.heap.size + 2, nc := (len + 1023) / 1024, n := len, m := w1.heap.size + 1, N := len, f := f, its := its, s := s, w := wq.alloc Wt.zero.obj } := by rw [hqd, HQ.out, HC.out, hqb]
          have hqn : q = { b := qb, o := 0, T := w.heap.size + 1, K := w.heap.size + 2, nc := (len + 1023) / 1024, n := len, m := w1.heap.size + 1, N := len, f := f, its := its, s := s, w := w } := by rw [HQ.out, HC.out, hqb]
          obtain ⟨hf1, hf2, hf3, hf4⟩ := HF.out
          obtain ⟨hl1, hl2⟩ := HLB.out
          have hmq : w1.heap.size + 1 < qb := by rw [HC.out] at hl2; simp only at hl2; omega
          have hqlt : qb < wq.heap.size := by have := World.block_lt_of_cell? _ _ hpq.c0; rw [hqn] at this; exact this
          have hok : qd.ok := by
            rw [hqe]
            exact ⟨by simp only; omega, by simp only; omega, by simp only; omega, by simp only; omega, by simp only; omega, by simp only; omega, by simp only; omega, by simp; omega, by simp; omega, by simp; omega, hf2, hit.ok⟩
          have hstart : DS qd (qd.w.alloc Wt.zero.obj) 0 qd.f D Wt.zero := by
            rw [hqd]; rw [hqd] at hok; exact hpq.start (by rw [hqn]) hok
          have hqdw : qd.w = wq.alloc Wt.zero.obj := by rw [hqd]
          have hqdb : qd.b = qb := by rw [hqe]
          have hqdo : qd.o = 0 := by rw [hqe]
          have hqds : qd.s = s := by rw [hqe]
          have hqbb : q.b = qb := by rw [hqn]
          have e5 := hpq.c5
          have e11 := hpq.c11
          have e16 := hpq.c16
          rw [hqbb] at e5 e11 e16
          have hCall := qdrop_fresh qd wq hqdw hok hqdo (by rw [hqdb]; exact hqlt) (by rw [hqe]; simp only; omega) (by rw [hqe]; simp only; omega) (wrap64 (ex + tsum c.cost len)) D hstart (by rw [hqdb]; exact e5) (by rw [hqdb]; exact e11) (by rw [hqdb]; exact e16)
          rw [hqdb, hqds] at hCall
          have hkk : qd.keep = q.keep := by rw [hqd]; rfl
          have hcc : qd.cost = q.cost := by rw [hqd]; rfl
          have hii : qd.its = q.its := by rw [hqd]
          have hnn : qd.n = len := by rw [hqe]
          have hff : qd.f = f := by rw [hqe]
          rw [hkk, hcc, hii, hnn, hff] at hCall
          have HCALL := hide hCall
          have HBEL := hide hpq.bel
          have HBW : Hid (∀ X f' D' xb, QF qd wq X f' D' xb → Below w.heap.size w X) := fun X f' D' xb hX => by
            have hqnw : q.w = w := by rw [hqn]
            have hbw := hpq.bel
            rw [hqnw] at hbw
            exact hbw.trans (hX.fr.below (fun k hk => by rw [hqe] at hk; unfold Cx.S at hk; simp only at hk; omega) hbw.size)
          have HQE := hide (And.intro hqe (And.intro hqn (And.intro hok (And.intro hkk hcc))))
          clear hCall hstart hok hqe hqn hqd hqdw hqdb hqdo hqds hqbb hkk hcc hii hnn hff e5 e11 e16 hf1 hf2 hf3 hf4 hl1 hl2 hpq
          go_wp2_with fail
          refine HCALL.out.mono ?_
          rintro e w3 ⟨rfl, f', D', hQF⟩
          have HQF := hide hQF
          clear hQF HCALL
          generalize hB : bst q.keep (ltI q.its) len = B
          have HBst := hide hB
          generalize hT : fst f B = t
          have HFst := hide hT
          clear hB hT
          go_upto_if 112 with fail
          go_cut [] (fun wc => QF qd wq wc f' D' (wrap64 (wrap64 (ex + tsum c.cost len) - dsum q.keep q.cost len)))
          case first => as_aux_lemma =>
            have HW := hide (HQF.out.below ((Below.refl _ _).alloc (Nat.le_refl _) (Obj.cells #[.string t.id, .int .i64 t.due, .int .u64 t.seq, .slice t.pa t.pn t.pn, .slice t.ma t.mn t.mn] 55)))
            cases B with
            | none =>
              rw [show bstI none = -1 from rfl]
              go_wp2_with (go_at_call 10; refine (zero_yes2 t (HFst.out.symm) _).mono ?_; rintro e w4 ⟨rfl, hb4⟩)
              go_meet
              case rel => exact HW.out.below hb4
            | some jx =>
              obtain ⟨hjk, _⟩ := bst_lt HBst.out
              rw [show bstI (some jx) = (jx : Int) from rfl]
              have hj0 : ¬ (jx : Int) < 0 := by omega
              have hjl2 : (jx : Int) < len := by omega
              have htj : t.isOf jx (its jx) := by rw [← HFst.out]; exact HF.out.2.1 jx hjk
              have hjok := hit.ok jx hjk
              obtain rfl := ha (by omega)
              have hbl : b < w.heap.size := hit.lt (by omega)
              have hqnw : q.w = w := by rw [HQE.out.2.1]
              have hS : Below w.heap.size wq w3 := HQF.out.fr.below (fun k hk => by rw [HQE.out.1] at hk; unfold Cx.S at hk; simp only at hk; have := HF.out.2.2.2.size; omega) (by have := HBEL.out.size; rw [hqnw] at this; exact this)
              have hbw := HBEL.out
              rw [hqnw] at hbw
              have hbel := hbw.trans hS
              obtain ⟨W3, hW3⟩ : ∃ W3, W3 = (w3.alloc (Obj.cells #[.string t.id, .int .i64 t.due, .int .u64 t.seq, .slice t.pa t.pn t.pn, .slice t.ma t.mn t.mn] 55)) := ⟨_, rfl⟩
              have hbel3 : Below w.heap.size w W3 := by rw [hW3]; exact hbel.alloc hbel.size _
              have i0 : W3.cell? ⟨b, off + jx * 4, none⟩ = some (.int .i64 (its jx).due) := (hbel3.cell (by exact hbl)).trans (hit.c0 jx hjk)
              have i1 : W3.cell? ⟨b, off + jx * 4 + 1, none⟩ = some (.int .u64 (its jx).seq) := (hbel3.cell (by exact hbl)).trans (hit.c1 jx hjk)
              have i2 : W3.cell? ⟨b, off + jx * 4 + 2, none⟩ = some (.int .u8 (its jx).mem) := (hbel3.cell (by exact hbl)).trans (hit.c2 jx hjk)
              have i3 : W3.cell? ⟨b, off + jx * 4 + 3, none⟩ = some (.int .u8 (its jx).parts) := (hbel3.cell (by exact hbl)).trans (hit.c3 jx hjk)
              have k0 : W3.cell? ⟨w3.heap.size, 0, none⟩ = some (.string t.id) := by rw [hW3]; simp
              have k1 : W3.cell? ⟨w3.heap.size, 1, none⟩ = some (.int .i64 t.due) := by rw [hW3]; simp
              have k2 : W3.cell? ⟨w3.heap.size, 2, none⟩ = some (.int .u64 t.seq) := by rw [hW3]; simp
              have k3 : W3.cell? ⟨w3.heap.size, 3, none⟩ = some (.slice t.pa t.pn t.pn) := by rw [hW3]; simp
              have k4 : W3.cell? ⟨w3.heap.size, 4, none⟩ = some (.slice t.ma t.mn t.mn) := by rw [hW3]; simp
              have hs3 : w3.heap.size < W3.heap.size := by rw [hW3]; simp
              have hs4 : b < W3.heap.size := by have := hbel3.size; omega
              have HI := hide (And.intro hjok htj)
              rw [← hW3] at HW ⊢
              clear hW3 hbel hbw hS hbel3 hit hjok htj
              go_wp2_with fail
              go_region_held3 (fun w' => w'.cell? ⟨b, off + jx * 4, none⟩ = some (.int .i64 (its jx).due) ∧ w'.cell? ⟨b, off + jx * 4 + 1, none⟩ = some (.int .u64 (its jx).seq) ∧ w'.cell? ⟨b, off + jx * 4 + 2, none⟩ = some (.int .u8 (its jx).mem) ∧ w'.cell? ⟨b, off + jx * 4 + 3, none⟩ = some (.int .u8 (its jx).parts) ∧ w'.cell? ⟨w3.heap.size, 0, none⟩ = some (.string t.id) ∧ w'.cell? ⟨w3.heap.size, 1, none⟩ = some (.int .i64 t.due) ∧ w'.cell? ⟨w3.heap.size, 2, none⟩ = some (.int .u64 t.seq) ∧ w'.cell? ⟨w3.heap.size, 3, none⟩ = some (.slice t.pa t.pn t.pn) ∧ w'.cell? ⟨w3.heap.size, 4, none⟩ = some (.slice t.ma t.mn t.mn)) (go_keep)
                (first | (go_at_call 11; refine (is_yes t jx (its jx) _ (by omega) HI.out.1 HI.out.2).mono ?_; rintro e w4 ⟨rfl, hb4⟩; obtain ⟨hc1, hc2⟩ := bcellD hb4))
              all_goals go_wp2
              go_meet
              case rel => exact HW.out.below (bdrew hb4)
          case rest => as_aux_lemma =>
            clear HQF
            have hqdb : qd.b = qb := by rw [HQE.out.1]
            have hqdk : qd.kc = kcnt q.keep len := by unfold Cx.kc; rw [HQE.out.2.2.2.1, show qd.n = len by rw [HQE.out.1]]
            have hqdm : qd.m = w1.heap.size + 1 := by rw [HQE.out.1]
            have hqcc : q.cost = c.cost := by rw [HQ.out]; rfl
            have m1 := hcut.c1
            have m2 := hcut.c2
            have m3 := hcut.c3
            have m5 := hcut.c5
            have m11 := hcut.c11
            have m16 := hcut.c16
            rw [hqdb] at m1 m2 m3 m5 m11 m16
            rw [hqdk] at m1
            rw [hqdm] at m2
            rw [HQE.out.2.2.2.1, HQE.out.2.2.2.2, show qd.n = len by rw [HQE.out.1], hqcc] at m3
            have hlen3 : (Builtin.len_ #[28] 3 #[.map (some (w1.heap.size + 1))]).run Yba.prog wc = .ok (.int .i64 (kcnt q.keep len)) wc := by
              have := hcut.own.len Yba.underlying28 3
              rw [hcut.size, hqdk, hqdm] at this; exact this
            have HCUT := hide hcut
            have u1' : 0 ≤ dsum q.keep c.cost len := by rw [← hqcc]; exact u1
            have u2' : dsum q.keep c.cost len ≤ 2000000 := by rw [← hqcc]; exact u2
            rw [hqcc] at m16 HCUT ⊢
            clear hcut hqdb hqdk hqdm hqcc
            have nn := nnil28
            go_wp2
            go_loopw [21] (fun i wr' => ∃ (k : Nat), k ≤ len ∧ i = .int .i64 k ∧ QF qd wq wr' f' D' (wrap64 (wrap64 (ex + tsum c.cost len) - dsum q.keep c.cost len))) (fun i _ => len - (intOf i).toNat)
            case atStart => exact ⟨0, Nat.zero_le _, rfl, HCUT.out⟩
            case round =>
              clear HCUT m1 m2 m3 m5 m11 m16 hlen3
              obtain ⟨k, hk, rfl, hqf⟩ := hrel
              have hbel := HBW.out _ _ _ _ hqf
              by_cases hlt3 : k < len
              · as_aux_lemma =>
                  obtain rfl := ha (by omega)
                  clear ha
                  have hbl : b < w.heap.size := hit.lt (by omega)
                  have d1 : wr.cell? ⟨b, off + k * 4 + 1, none⟩ = some (.int .u64 (its k).seq) := (hbel.cell (by exact hbl)).trans (hit.c1 k hlt3)
                  have gb : b < wr.heap.size := by have := hbel.size; omega
                  have gb1 : b < wr.heap.size + 1 := by omega
                  have gb2 : b < wr.heap.size + 1 + 1 := by omega
                  have hhas : Maps.has D' (idLit (idOf k)) = decide (s ≤ (its k).seq) := by
                    rw [hqf.has k (by rw [HQE.out.1]; exact hlt3), HQE.out.1]; rfl
                  have m2 := hqf.c2
                  rw [show qd.b = qb by rw [HQE.out.1], show qd.m = w1.heap.size + 1 by rw [HQE.out.1]] at m2
                  have gq : qb < wr.heap.size := World.block_lt_of_cell? _ _ m2
                  have HO : Hid (OwnsIds wr (w1.heap.size + 1) qd.N D') := by have := hqf.own; rw [show qd.m = w1.heap.size + 1 by rw [HQE.out.1]] at this; exact this
                  have HX := hide hqf
                  have HHAS := hide hhas
                  clear hqf hbel hhas hit
                  go_wp2
                  go_region_held3 (fun w' => w'.cell? ⟨qb, 2, none⟩ = some (.map (some (w1.heap.size + 1))) ∧ (Instr.lookup 28 (.map (some (w1.heap.size + 1))) (.string (idOf k)) true).run Yba.prog w' = .ok (.tuple #[.agg #[], .bool (decide (s ≤ (its k).seq))]) w') (refine ⟨cell_later ?_ m2, look_id (ownsIds_below HO.out ?_) HHAS.out⟩ <;> (repeat (first | exact Below.refl _ _ | refine Below.drew ?_ | refine Below.alloc ?_ (by simp) _)))
                    (first | (go_at_call 6; refine (id_any k _ (by omega)).mono ?_; rintro e w' ⟨rfl, rfl⟩))
                  all_goals go_wp2
                  all_goals go_roundw
                  all_goals (first | exact ⟨k + 1, by omega, by go_num, HX.out.below (by repeat (first | exact Below.refl _ _ | refine Below.drew ?_ | refine Below.alloc ?_ (by simp) _))⟩ | (simp [intOf]; omega))
              · as_aux_lemma =>
                  obtain rfl : len = k := by omega
                  have mk61 := mkBools
                  have HX := hide hqf
                  have HBX := hide hbel
                  obtain ⟨g, hg⟩ := hqf.kp
                  obtain ⟨sb, hsb⟩ : ∃ sb, wr.heap.size = sb := ⟨_, rfl⟩
                  have hL4 : Hid (L4 qd wq (wr.alloc (Obj.cells (noBools len) 4)) f' D' (wrap64 (wrap64 (ex + tsum c.cost len) - dsum q.keep c.cost len)) g sb 0) := by
                    refine ⟨hqf.below ((Below.refl _ _).alloc (Nat.le_refl _) _), fun x hx => ?_, fun x => ?_⟩
                    · rw [World.cell?_alloc_at _ _ _ _ hsb.symm]
                      rw [show qd.n = len by rw [HQE.out.1]] at hx
                      exact noBools_get _ _ hx
                    · rw [World.frozen?_alloc_at _ _ _ _ hsb.symm]
                  have hsq : wq.heap.size ≤ sb := by have := hqf.fr.size; omega
                  have hqsb : qb < sb := by omega
                  have hgk := hide hg
                  have hkl := kcnt_le q.keep len
                  have HHP := hide hqf.hp
                  have HZR := hide hqf.zero
                  clear hqf hbel hg
                  go_wp2
                  go_loopw [25] (fun i wr' => ∃ (k : Nat), k ≤ kcnt q.keep len ∧ i = .int .i64 k ∧ sb < wr'.heap.size ∧ L4 qd wq wr' f' D' (wrap64 (wrap64 (ex + tsum c.cost len) - dsum q.keep c.cost len)) g sb k) (fun i _ => kcnt q.keep len - (intOf i).toNat)
                  case atStart => exact ⟨0, Nat.zero_le _, rfl, by rw [← hsb]; simp, hL4.out⟩
                  case round =>
                    clear hL4 HX HBX mk61
                    obtain ⟨k, hk4, rfl, hsbl, h4⟩ := hrel
                    have hbel := HBW.out _ _ _ _ h4.qf
                    by_cases hlt4 : k < kcnt q.keep len
                    · as_aux_lemma =>
                        have hqdk : qd.kc = kcnt q.keep len := by unfold Cx.kc; rw [HQE.out.2.2.2.1, show qd.n = len by rw [HQE.out.1]]
                        obtain ⟨x, hx⟩ : ∃ x, g k = x := ⟨_, rfl⟩
                        obtain ⟨ga, gb_, gc⟩ := hgk.out.at_ k (by rw [hqdk]; exact hlt4)
                        rw [hx] at ga gb_ gc
                        rw [show qd.n = len by rw [HQE.out.1]] at ga
                        rw [show qd.its = its by rw [HQE.out.1]] at gc
                        have hsq : s ≤ (its x).seq := by rw [HQE.out.1] at gb_; simpa [Cx.keep, keepB] using gb_
                        obtain rfl := ha (by omega)
                        have hbl : b < w.heap.size := hit.lt (by omega)
                        obtain ⟨p, hp⟩ : ∃ p, p = w.heap.size + 2 + k / 1024 := ⟨_, rfl⟩
                        obtain ⟨oo, hoo⟩ : ∃ oo, oo = k % 1024 * 5 := ⟨_, rfl⟩
                        have hqdK : qd.K = w.heap.size + 2 := by rw [HQE.out.1]
                        have hqdn : qd.nc = (len + 1023) / 1024 := by rw [HQE.out.1]
                        have hqdT : qd.T = w.heap.size + 1 := by rw [HQE.out.1]
                        have hqdb : qd.b = qb := by rw [HQE.out.1]
                        have hkl2 : k < (len + 1023) / 1024 * 1024 := by omega
                        have hW := h4.qf.heap.at_ k (by rw [hqdn]; exact hkl2)
                        rw [hqdK, ← hp, ← hoo] at hW
                        obtain ⟨t4, ht4⟩ : ∃ t4, f' k = t4 := ⟨_, rfl⟩
                        rw [ht4] at hW gc
                        obtain ⟨e0, e1, e2, e3, e4⟩ := hW
                        have hce := h4.qf.c0
                        rw [hqdb, hqdT, hqdn] at hce
                        have HT4 : Hid (∀ c, c < (len + 1023) / 1024 → wr.cell? ⟨w.heap.size + 1, c, none⟩ = some (.slice (some ⟨w.heap.size + 2 + c, 0, none⟩) 1024 1024)) := by
                          have := h4.qf.heap.tab; rw [hqdn, hqdT, hqdK] at this; exact this
                        have HPO := hide (And.intro hp hoo)
                        have hid : t4.id = idOf x := gc.id
                        have H4 := hide h4
                        have HG := hide (And.intro hx (And.intro gc (And.intro ht4 hid)))
                        have HBEL4 := hide hbel
                        clear h4 hbel hp hoo hqdK hqdn hqdT hqdb hqdk gb_ hx ht4 gc ha
                        go_upto_region 52 with (first | (go_at_call 12; refine (at_at qb 0 (w.heap.size + 1) (w.heap.size + 2) ((len + 1023) / 1024) k p oo _ rfl HPO.out.1 HPO.out.2 _ (by omega) hkl2 hce HT4.out).mono ?_; rintro e w5 ⟨rfl, rfl⟩))
                        have hs3 : (idOf x).size = 3 := rfl
                        have ix0 := fun w => (idx_id x w).1
                        have ix1 := fun w => (idx_id x w).2.1
                        have ix2 := fun w => (idx_id x w).2.2
                        go_quiet (fail)
                        have hxv : 97 + (x:Int) % 26 - 97 + 26 * (97 + (x:Int) / 26 % 26 - 97) + 676 * (97 + (x:Int) / 676 % 26 - 97) = x := by omega
                        rw [hxv]
                        clear hxv ix0 ix1 ix2 hs3 e0 e1 e2 e3 e4 hce
                        have hq4 := H4.out
                        have hbl4 := HBEL4.out
                        obtain ⟨W, hWd⟩ : ∃ W, W = (w5.alloc (Obj.cells #[Value.string (idOf x), Value.int IntKind.i64 t4.due, Value.int IntKind.u64 t4.seq, Value.slice t4.pa t4.pn t4.pn, Value.slice t4.ma t4.mn t4.mn] 55)).drewN nq := ⟨_, rfl⟩
                        rw [← hWd]
                        obtain ⟨nb, hnb⟩ : ∃ nb, nb = w5.heap.size := ⟨_, rfl⟩
                        rw [← hnb]
                        have hbW : Below w5.heap.size w5 W := by rw [hWd]; exact bdrewN ((Below.refl _ _).alloc (Nat.le_refl _) _)
                        have hbwW : Below w.heap.size w W := hbl4.trans (hbW.mono hbl4.size)
                        have k0 : W.cell? ⟨nb, 0, none⟩ = some (.string t4.id) := by rw [hWd, hid, hnb]; show (w5.alloc _).cell? _ = _; simp
                        have k1 : W.cell? ⟨nb, 1, none⟩ = some (.int .i64 t4.due) := by rw [hWd, hnb]; show (w5.alloc _).cell? _ = _; simp
                        have k2 : W.cell? ⟨nb, 2, none⟩ = some (.int .u64 t4.seq) := by rw [hWd, hnb]; show (w5.alloc _).cell? _ = _; simp
                        have k3 : W.cell? ⟨nb, 3, none⟩ = some (.slice t4.pa t4.pn t4.pn) := by rw [hWd, hnb]; show (w5.alloc _).cell? _ = _; simp
                        have k4 : W.cell? ⟨nb, 4, none⟩ = some (.slice t4.ma t4.mn t4.mn) := by rw [hWd, hnb]; show (w5.alloc _).cell? _ = _; simp
                        have i0 : W.cell? ⟨b, off + x * 4, none⟩ = some (.int .i64 (its x).due) := (hbwW.cell (by exact hbl)).trans (hit.c0 x ga)
                        have i1 : W.cell? ⟨b, off + x * 4 + 1, none⟩ = some (.int .u64 (its x).seq) := (hbwW.cell (by exact hbl)).trans (hit.c1 x ga)
                        have i2 : W.cell? ⟨b, off + x * 4 + 2, none⟩ = some (.int .u8 (its x).mem) := (hbwW.cell (by exact hbl)).trans (hit.c2 x ga)
                        have i3 : W.cell? ⟨b, off + x * 4 + 3, none⟩ = some (.int .u8 (its x).parts) := (hbwW.cell (by exact hbl)).trans (hit.c3 x ga)
                        have hqdk : qd.kc = kcnt q.keep len := by unfold Cx.kc; rw [HQE.out.2.2.2.1, show qd.n = len by rw [HQE.out.1]]
                        have hsn : seenB g k x = false := by rw [← HG.out.1]; exact seenB_new (n := qd.kc) (by rw [hqdk]; exact hlt4) hgk.out.inj
                        have HL4 := hide (hq4.below hbW hsbl)
                        have sv : W.cell? ⟨sb, x, none⟩ = some (.bool false) := by rw [HL4.out.seen x (by rw [HQE.out.1]; exact ga), hsn]
                        have HI := hide (And.intro (hit.ok x ga) (And.intro HG.out.2.1 hit))
                        have hsW : nb < W.heap.size := by rw [hWd, hnb]; show _ < (w5.alloc _).heap.size; simp
                        have hsW2 : b < W.heap.size := by have := hbwW.size; omega
                        have hsW3 : sb < W.heap.size := by have := hbW.size; omega
                        have x0 : decide ((x : Int) < 0) = false := decide_eq_false (by omega)
                        have x1 : decide (len ≤ x) = false := decide_eq_false (by omega)
                        have x2 : decide ((its x).seq < s) = false := decide_eq_false (by omega)
                        have x3 : (x : Int) < len := by omega
                        have hidt := hide hid
                        have hnbsb : Hid (sb < nb) := by rw [hnb]; exact hsbl
                        clear hq4 hbl4 hWd hnb hbW hbwW hsn hid hit hqdk
                        go_wp2_with fail
                        go_region_held3 (fun w' => w'.cell? ⟨sb, x, none⟩ = some (.bool false) ∧ w'.cell? ⟨b, off + x * 4, none⟩ = some (.int .i64 (its x).due) ∧ w'.cell? ⟨b, off + x * 4 + 1, none⟩ = some (.int .u64 (its x).seq) ∧ w'.cell? ⟨b, off + x * 4 + 2, none⟩ = some (.int .u8 (its x).mem) ∧ w'.cell? ⟨b, off + x * 4 + 3, none⟩ = some (.int .u8 (its x).parts) ∧ w'.cell? ⟨nb, 0, none⟩ = some (.string t4.id) ∧ w'.cell? ⟨nb, 1, none⟩ = some (.int .i64 t4.due) ∧ w'.cell? ⟨nb, 2, none⟩ = some (.int .u64 t4.seq) ∧ w'.cell? ⟨nb, 3, none⟩ = some (.slice t4.pa t4.pn t4.pn) ∧ w'.cell? ⟨nb, 4, none⟩ = some (.slice t4.ma t4.mn t4.mn)) (first | (refine ⟨cell_later ?_ sv, cell_later ?_ i0, cell_later ?_ i1, cell_later ?_ i2, cell_later ?_ i3, cell_later ?_ k0, cell_later ?_ k1, cell_later ?_ k2, cell_later ?_ k3, cell_later ?_ k4⟩ <;> (first | exact Below.refl _ _ | exact bdrew hb4 | exact Below.drew (Below.refl _ _) | exact hb4 | exact Below.drew (bdrew hb4)) ; done) | go_keep)
                          (first | (go_at_call 11; refine (is_yes t4 x (its x) _ (by omega) HI.out.1 HI.out.2.1).mono ?_; rintro e w6 ⟨rfl, hb4⟩; obtain ⟨hc1, hc2⟩ := bcellD hb4))
                        have hb6 : Below W.heap.size W w6 := bdrew hb4
                        have HL6 := hide (HL4.out.below hb6 hsW3)
                        have s6 : w6.cell? ⟨sb, x, none⟩ = some (.bool false) := cell_later hb6 sv
                        have sf6 : w6.frozen? ⟨sb, x, none⟩ = false := HL6.out.sfz x
                        have hnbs : (⟨sb, x, none⟩ : Addr).block ≠ nb := by have := hnbsb.out; simp only; omega
                        have u1_ : w6.cell? ⟨nb, 1, none⟩ = some (.int .i64 t4.due) := cell_later hb6 k1
                        have u2_ : w6.cell? ⟨nb, 2, none⟩ = some (.int .u64 t4.seq) := cell_later hb6 k2
                        have hw6 : nb < w6.heap.size := by have := hb6.size; omega
                        have hw6s : sb < w6.heap.size := by have := hb6.size; omega
                        obtain ⟨W7, hW7⟩ : ∃ W7, W7 = w6.setCell ⟨sb, x, none⟩ (.bool true) := ⟨_, rfl⟩
                        have HL7 : Hid (L4 qd wq W7 f' D' (wrap64 (wrap64 (ex + tsum c.cost len) - dsum q.keep c.cost len)) g sb (k + 1)) := by
                          rw [hW7]
                          exact HL6.out.step HQE.out.2.2.1 HG.out.1 (by rw [HQE.out.1]; exact ga) (by rw [HQE.out.1]; simp only; omega) (by rw [HQE.out.1]; simp only; omega) (by rw [HQE.out.1]; simp only; omega) (by omega)
                        have z1 : W7.cell? ⟨nb, 1, none⟩ = some (.int .i64 t4.due) := by rw [hW7, World.cell?_setCell_other _ _ _ _ (by intro e; injection e with e1 e2 e3; exact hnbs e1)]; exact u1_
                        have z2 : W7.cell? ⟨nb, 2, none⟩ = some (.int .u64 t4.seq) := by rw [hW7, World.cell?_setCell_other _ _ _ _ (by intro e; injection e with e1 e2 e3; exact hnbs e1)]; exact u2_
                        have hz7 : nb < W7.heap.size := World.block_lt_of_cell? _ _ z1
                        have hs7 : sb < W7.heap.size := by rw [hW7]; simpa using hw6s
                        have HW7 := hide hW7
                        clear hc1 hc2 hb4 hb6 HL4 HL6 sv k0 k1 k2 k3 k4 i0 i1 i2 i3 u1_ u2_ hnbs x0 x1 x2 hW7
                        go_upto_region 56 with fail
                        rw [← HW7.out]
                        by_cases hk0 : k = 0
                        · have hk0' : decide (0 < k) = false := decide_eq_false (by omega)
                          clear z1 z2
                          go_wp2
                          go_roundw
                          case rel => exact ⟨k + 1, by omega, by go_num, hs7, HL7.out⟩
                          case measure => simp [intOf]; omega
                        · have hk0' : decide (0 < k) = true := decide_eq_true (by omega)
                          have hk1 : 0 < k := by omega
                          obtain ⟨j, hj⟩ : ∃ j, j = (k - 1) / 2 := ⟨_, rfl⟩
                          have hjl : j < (len + 1023) / 1024 * 1024 := by omega
                          obtain ⟨p2, hp2⟩ : ∃ p2, p2 = w.heap.size + 2 + j / 1024 := ⟨_, rfl⟩
                          obtain ⟨o2, ho2⟩ : ∃ o2, o2 = j % 1024 * 5 := ⟨_, rfl⟩
                          have hqdK : qd.K = w.heap.size + 2 := by rw [HQE.out.1]
                          have hqdn : qd.nc = (len + 1023) / 1024 := by rw [HQE.out.1]
                          have hqdT : qd.T = w.heap.size + 1 := by rw [HQE.out.1]
                          have hqdb : qd.b = qb := by rw [HQE.out.1]
                          have hqdk : qd.kc = kcnt q.keep len := by unfold Cx.kc; rw [HQE.out.2.2.2.1, show qd.n = len by rw [HQE.out.1]]
                          have h7 := HL7.out.qf
                          have hW := h7.heap.at_ j (by rw [hqdn]; exact hjl)
                          rw [hqdK, ← hp2, ← ho2] at hW
                          obtain ⟨t5, ht5⟩ : ∃ t5, f' j = t5 := ⟨_, rfl⟩
                          rw [ht5] at hW
                          obtain ⟨e0, e1, e2, e3, e4⟩ := hW
                          have hce := h7.c0
                          rw [hqdb, hqdT, hqdn] at hce
                          have HT7 : Hid (∀ c, c < (len + 1023) / 1024 → W7.cell? ⟨w.heap.size + 1, c, none⟩ = some (.slice (some ⟨w.heap.size + 2 + c, 0, none⟩) 1024 1024)) := by
                            have := h7.heap.tab; rw [hqdn, hqdT, hqdK] at this; exact this
                          have hless : lessB t4.due t4.seq t5.due t5.seq = false := by
                            have := HHP.out k hk1 (by rw [hqdk]; exact hlt4) (Nat.zero_le _)
                            rw [← hj, ht5, HG.out.2.2.1] at this
                            exact this
                          have HPO2 := hide (And.intro hp2 ho2)
                          have HJ := hide hj
                          have hp7 : p2 < W7.heap.size := World.block_lt_of_cell? _ _ e0
                          have hjk : ((k : Int) - 1) / 2 = j := by omega
                          clear h7 hqdK hqdn hqdT hqdb hqdk hp2 ho2 ht5 hj
                          go_wp2_with (first | (go_at_call 12; refine (at_at qb 0 (w.heap.size + 1) (w.heap.size + 2) ((len + 1023) / 1024) j p2 o2 _ (by first | exact hjk | rfl | omega | (simp; omega)) HPO2.out.1 HPO2.out.2 _ (by omega) hjl hce HT7.out).mono ?_; rintro e w8 ⟨rfl, rfl⟩) | (go_at_call 8; refine (less_any _ _ _ _ _).mono ?_; rintro e w8 ⟨rfl, rfl⟩))
                          go_roundw
                          case rel => exact ⟨k + 1, by omega, by go_num, by simp; omega, HL7.out.below ((Below.refl _ _).alloc (Nat.le_refl _) _) hs7⟩
                          case measure => simp [intOf]; omega
                    · as_aux_lemma =>
                        obtain rfl : kcnt q.keep len = k := by omega
                        obtain ⟨kc, hkc⟩ : ∃ kc, kc = kcnt q.keep len := ⟨_, rfl⟩
                        have HQ5 := hide h4.qf
                        have hkc0 : kc ≤ len := by omega
                        rw [← hkc] at hlt4 hk4 ⊢
                        have HKC := hide hkc
                        clear h4 hbel hkc
                        go_wp2
                        go_loopw [29] (fun i wr' => ∃ (j : Nat), kc ≤ j ∧ j ≤ len ∧ i = .int .i64 j ∧ QF qd wq wr' f' D' (wrap64 (wrap64 (ex + tsum c.cost len) - dsum q.keep c.cost len))) (fun i _ => len - (intOf i).toNat)
                        case atStart => exact ⟨kc, Nat.le_refl _, hkc0, rfl, HQ5.out⟩
                        case round =>
                          clear HQ5
                          obtain ⟨j, hj1, hj2, rfl, h5⟩ := hrel
                          by_cases hlt5 : j < len
                          · as_aux_lemma =>
                              have hjl : j < (len + 1023) / 1024 * 1024 := by omega
                              obtain ⟨p2, hp2⟩ : ∃ p2, p2 = w.heap.size + 2 + j / 1024 := ⟨_, rfl⟩
                              obtain ⟨o2, ho2⟩ : ∃ o2, o2 = j % 1024 * 5 := ⟨_, rfl⟩
                              have hqdK : qd.K = w.heap.size + 2 := by rw [HQE.out.1]
                              have hqdn : qd.nc = (len + 1023) / 1024 := by rw [HQE.out.1]
                              have hqdT : qd.T = w.heap.size + 1 := by rw [HQE.out.1]
                              have hqdb : qd.b = qb := by rw [HQE.out.1]
                              have hqdk : qd.kc = kcnt q.keep len := by unfold Cx.kc; rw [HQE.out.2.2.2.1, show qd.n = len by rw [HQE.out.1]]
                              have hW := h5.heap.at_ j (by rw [hqdn]; exact hjl)
                              rw [hqdK, ← hp2, ← ho2] at hW
                              obtain ⟨t5, ht5⟩ : ∃ t5, f' j = t5 := ⟨_, rfl⟩
                              rw [ht5] at hW
                              obtain ⟨e0, e1, e2, e3, e4⟩ := hW
                              have hce := h5.c0
                              rw [hqdb, hqdT, hqdn] at hce
                              have HT5 : Hid (∀ c, c < (len + 1023) / 1024 → wr.cell? ⟨w.heap.size + 1, c, none⟩ = some (.slice (some ⟨w.heap.size + 2 + c, 0, none⟩) 1024 1024)) := by
                                have := h5.heap.tab; rw [hqdn, hqdT, hqdK] at this; exact this
                              have HZ5 : Hid (t5 = Wt.zero) := by
                                rw [← ht5]; exact HZR.out j (by rw [hqdk, ← HKC.out]; exact hj1) (by rw [HQE.out.1]; exact hlt5)
                              have HPO2 := hide (And.intro hp2 ho2)
                              have H5 := hide h5
                              clear h5 hqdK hqdn hqdT hqdb hqdk hp2 ho2 ht5
                              go_wp2_with (first | (go_at_call 12; refine (at_at qb 0 (w.heap.size + 1) (w.heap.size + 2) ((len + 1023) / 1024) j p2 o2 _ rfl HPO2.out.1 HPO2.out.2 _ (by omega) hjl hce HT5.out).mono ?_; rintro e w8 ⟨rfl, rfl⟩) | (go_at_call 10; refine (zero_yes2 t5 HZ5.out _).mono ?_; rintro e w9 ⟨rfl, hb9⟩))
                              go_roundw
                              case rel => exact ⟨j + 1, by omega, by omega, by go_num, H5.out.below hb9⟩
                              case measure => simp [intOf]; omega
                          · have HB5 := hide (HBW.out _ _ _ _ h5)
                            clear h5
                            go_wp2
                            go_ret
                            exact ⟨by simp, HB5.out⟩
end Go.Proofs.Ybulkcgeg
