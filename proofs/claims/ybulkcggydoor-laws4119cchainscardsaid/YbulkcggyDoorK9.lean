import Derived.Test.YbulkcggyDoorK7
namespace Go.Proofs.YbulkcggyDoor
open Go.RowKit
set_option linter.unusedVariables false
set_option linter.unusedSectionVars false
set_option linter.unusedSimpArgs false
set_option maxRecDepth 100000
/-- What the comparison reads of a chain: its first quote's expiry. -/
structure X3 (w : World) (b : Nat) (x : Int) : Prop where
  c4 : w.cell? ⟨b, 4, none⟩ = some (.int .u64 0)
  c5 : w.cell? ⟨b, 5, none⟩ = some (.int .i64 x)
  c6 : w.cell? ⟨b, 6, none⟩ = some (.pointer none)
theorem X3.below {V w' : World} {b : Nat} {x : Int} (h : X3 V b x) (hb : Below V.heap.size V w') : X3 w' b x := by
  have l : b < V.heap.size := World.block_lt_of_cell? _ _ h.c4
  have c : ∀ o, w'.cell? ⟨b, o, none⟩ = V.cell? ⟨b, o, none⟩ := fun o => hb.cell (by exact l)
  exact ⟨by rw [c]; exact h.c4, by rw [c]; exact h.c5, by rw [c]; exact h.c6⟩
theorem SX {V w' : World} {a b : Nat} {x y : Int} (h : X3 V a x) (h' : X3 V b y) (hb : Below V.heap.size V w') :
    w'.cell? ⟨a, 4, none⟩ = some (.int .u64 0) ∧ w'.cell? ⟨a, 5, none⟩ = some (.int .i64 x) ∧ w'.cell? ⟨a, 6, none⟩ = some (.pointer none) ∧ w'.cell? ⟨b, 4, none⟩ = some (.int .u64 0) ∧ w'.cell? ⟨b, 5, none⟩ = some (.int .i64 y) ∧ w'.cell? ⟨b, 6, none⟩ = some (.pointer none) :=
  ⟨(h.below hb).c4, (h.below hb).c5, (h.below hb).c6, (h'.below hb).c4, (h'.below hb).c5, (h'.below hb).c6⟩
set_option maxHeartbeats 1000000 in
theorem cmp_any (a b l1 c1 l2 c2 : Nat) (x y : Int) (w : World) (h1 : 0 < l1) (h2 : 0 < l2) (ha : X3 w a x) (hb : X3 w b y) :
    Calls Ybad.prog 17 #[.slice (some ⟨a, 0, none⟩) l1 c1, .slice (some ⟨b, 0, none⟩) l2 c2] w fun e w' => (∃ c : Int, e = .returned (.int .i64 c) ∧ (c < 0 ↔ x < y)) ∧ Below w.heap.size w w' := by
  have HA := hide ha
  have HB := hide hb
  have i1 : (0 : Int) < l1 := by omega
  have i2 : (0 : Int) < l2 := by omega
  clear ha hb
  go_enter Ybad.func17, Ybad.ntmps17
  go_wp2_with fail
  go_region_held3 (fun w' => w'.cell? ⟨a, 4, none⟩ = some (.int .u64 0) ∧ w'.cell? ⟨a, 5, none⟩ = some (.int .i64 x) ∧ w'.cell? ⟨a, 6, none⟩ = some (.pointer none) ∧ w'.cell? ⟨b, 4, none⟩ = some (.int .u64 0) ∧ w'.cell? ⟨b, 5, none⟩ = some (.int .i64 y) ∧ w'.cell? ⟨b, 6, none⟩ = some (.pointer none)) (first | exact SX HA.out HB.out HB5.out | exact SX HA.out HB.out ((Below.refl _ _).drew))
    (first
      | (go_at_call 18; refine (compare_any _ _ _).mono ?_; rintro e w5 ⟨⟨cc, rfl, hcc⟩, hw5⟩; have HB5 := hide (un_drew (W2.below' hw5)); have HC := hide hcc; clear hw5 hcc))
  all_goals go_wp2
  all_goals go_ret
  all_goals exact ⟨⟨cc, rfl, HC.out⟩, HB5.out⟩
def swp (p : Nat → Nat) (a b : Nat) : Nat → Nat := fun x => if x = a then p b else if x = b then p a else p x
/-- The row that is sorted. -/
structure SR (w : World) (g k : Nat) (sv : Nat → Value) (p0 p : Nat → Nat) (wr : World) : Prop where
  fw : Fw (fun t => t = g) w wr
  row : ∀ x, x < k → wr.cell? ⟨g, x, none⟩ = some (sv (p x))
  fz : ∀ x, x < k → wr.frozen? ⟨g, x, none⟩ = false
  per : ∀ v, (∃ x, x < k ∧ p x = v) ↔ (∃ x, x < k ∧ p0 x = v)
  inj : ∀ x y, x < k → y < k → p x = p y → x = y
def Srt (p : Nat → Nat) (i : Nat) : Prop := ∀ a b, a < b → b < i → p a < p b
structure Ins (p : Nat → Nat) (i j : Nat) : Prop where
  le : j ≤ i
  o : ∀ a b, a < b → b ≤ i → a ≠ j → b ≠ j → p a < p b
  m : ∀ b, j < b → b ≤ i → p j < p b
theorem Ins.start {p : Nat → Nat} {i : Nat} (h : Srt p i) : Ins p i i := ⟨Nat.le_refl _, fun a b h1 h2 h3 h4 => h a b h1 (by omega), fun b h1 h2 => by omega⟩
theorem Ins.done0 {p : Nat → Nat} {i : Nat} (h : Ins p i 0) : Srt p (i + 1) := fun a b h1 h2 => by
  by_cases ha : a = 0
  · subst ha; exact h.m b h1 (by omega)
  · exact h.o a b h1 (by omega) ha (by omega)
theorem Ins.done {p : Nat → Nat} {i j : Nat} (h : Ins p i (j + 1)) (hj : p j < p (j + 1)) : Srt p (i + 1) := fun a b h1 h2 => by
  by_cases ha : a = j + 1
  · subst ha; exact h.m b h1 (by omega)
  · by_cases hb : b = j + 1
    · subst hb
      by_cases haj : a = j
      · subst haj; exact hj
      · have := h.o a j (by omega) (by have := h.le; omega) ha (by omega)
        omega
    · exact h.o a b h1 (by omega) ha hb
theorem Ins.swap {p : Nat → Nat} {i j : Nat} (h : Ins p i (j + 1)) (hj : p (j + 1) < p j) : Ins (swp p (j + 1) j) i j := by
  have hle := h.le
  refine ⟨by omega, fun a b h1 h2 h3 h4 => ?_, fun b h1 h2 => ?_⟩
  · unfold swp
    by_cases ha : a = j + 1
    · subst ha
      rw [if_pos rfl, if_neg (by omega), if_neg h4]
      exact h.o j b (by omega) h2 (by omega) (by omega)
    · rw [if_neg ha, if_neg h3]
      by_cases hb : b = j + 1
      · subst hb
        rw [if_pos rfl]
        exact h.o a j (by omega) (by omega) ha (by omega)
      · rw [if_neg hb, if_neg h4]
        exact h.o a b h1 h2 ha hb
  · unfold swp
    rw [if_neg (by omega), if_pos rfl]
    by_cases hb : b = j + 1
    · subst hb; rw [if_pos rfl]; exact hj
    · rw [if_neg hb, if_neg (by omega)]
      exact h.m b (by omega) h2
theorem SR.below {w : World} {g k : Nat} {sv : Nat → Value} {p0 p : Nat → Nat} {wr w' : World} (h : SR w g k sv p0 p wr) (hb : Below wr.heap.size wr w') : SR w g k sv p0 p w' := by
  refine ⟨h.fw.trans (Fw.of_below hb), fun x hx => ?_, fun x hx => ?_, h.per, h.inj⟩
  · rw [hb.cell (by exact World.block_lt_of_cell? _ _ (h.row x hx))]; exact h.row x hx
  · rw [hb.frozen (by exact World.block_lt_of_cell? _ _ (h.row x hx))]; exact h.fz x hx
theorem SR.swap {w : World} {g k : Nat} {sv : Nat → Value} {p0 p : Nat → Nat} {wr : World} (h : SR w g k sv p0 p wr) {j : Nat} (hj : j + 1 < k) :
    SR w g k sv p0 (swp p (j + 1) j) ((wr.setCell ⟨g, j + 1, none⟩ (sv (p j))).setCell ⟨g, j, none⟩ (sv (p (j + 1)))) := by
  have n1 : ∀ (a b : Nat), a ≠ b → (⟨g, a, none⟩ : Addr) ≠ ⟨g, b, none⟩ := fun a b hne e => hne (by injection e)
  refine ⟨h.fw.trans ⟨rfl, rfl, rfl, by simp, fun t h1 h2 => ?_⟩, fun x hx => ?_, fun x hx => by rw [World.frozen?_setCell, World.frozen?_setCell]; exact h.fz x hx, fun v => ?_, fun x y hx hy e => ?_⟩
  · rw [Below.heap_setCell _ _ _ _ (fun e => h2 (by rw [e])), Below.heap_setCell _ _ _ _ (fun e => h2 (by rw [e]))]
  · unfold swp
    by_cases h1 : x = j
    · subst h1
      rw [if_neg (by omega), if_pos rfl]
      exact World.cell?_setCell_same _ _ _ (by rw [World.cell?_setCell_other _ _ _ _ (n1 _ _ (by omega))]; exact h.row x hx)
    · rw [World.cell?_setCell_other _ _ _ _ (n1 _ _ (by omega))]
      by_cases h2 : x = j + 1
      · subst h2
        rw [if_pos rfl]
        exact World.cell?_setCell_same _ _ _ (h.row _ hx)
      · rw [if_neg h2, if_neg h1, World.cell?_setCell_other _ _ _ _ (n1 _ _ (by omega))]
        exact h.row x hx
  · rw [← h.per v]
    constructor
    · rintro ⟨x, hx, rfl⟩
      unfold swp
      split
      · exact ⟨j, by omega, rfl⟩
      · split
        · exact ⟨j + 1, hj, rfl⟩
        · exact ⟨x, hx, rfl⟩
    · rintro ⟨x, hx, rfl⟩
      by_cases h1 : x = j
      · subst h1; exact ⟨x + 1, hj, by simp [swp]⟩
      · by_cases h2 : x = j + 1
        · subst h2; exact ⟨j, by omega, by simp [swp]⟩
        · exact ⟨x, hx, by simp [swp, h1, h2]⟩
  · have sw : ∀ x, swp p (j + 1) j x = p (if x = j + 1 then j else if x = j then j + 1 else x) := fun x => by
      unfold swp
      split
      · rfl
      · split <;> rfl
    rw [sw, sw] at e
    have lt : ∀ x, x < k → (if x = j + 1 then j else if x = j then j + 1 else x) < k := fun x hx => by
      split
      · omega
      · split
        · omega
        · exact hx
    have := h.inj _ _ (lt x hx) (lt y hy) e
    repeat' split at this
    all_goals omega
/-- A chain as the sort sees it. -/
def Chn (w : World) (g : Nat) (sv : Nat → Value) (e : Nat) : Prop := ∃ b l c : Nat, sv e = .slice (some ⟨b, 0, none⟩) l c ∧ 0 < l ∧ X3 w b (xp e) ∧ b ≠ g
theorem Chn.fw {w w' : World} {g : Nat} {sv : Nat → Value} {e : Nat} (h : Chn w g sv e) (hf : Fw (fun t => t = g) w w') : Chn w' g sv e := by
  obtain ⟨b, l, c, h1, h2, h3, h4⟩ := h
  have lb : b < w.heap.size := World.block_lt_of_cell? _ _ h3.c4
  have cc : ∀ o, w'.cell? ⟨b, o, none⟩ = w.cell? ⟨b, o, none⟩ := fun o => hf.cell (by exact lb) h4
  exact ⟨b, l, c, h1, h2, ⟨by rw [cc]; exact h3.c4, by rw [cc]; exact h3.c5, by rw [cc]; exact h3.c6⟩, h4⟩
theorem bdrewN {n : Nat} {w : World} : Below w.heap.size w (w.drewN n) := ⟨rfl, rfl, rfl, Nat.le_refl _, fun _ _ => rfl⟩
theorem S2c {V w' : World} {g a b : Nat} {u v : Value} (h : V.cell? ⟨g, a, none⟩ = some u) (h' : V.cell? ⟨g, b, none⟩ = some v) (hb : Below V.heap.size V w') : w'.cell? ⟨g, a, none⟩ = some u ∧ w'.cell? ⟨g, b, none⟩ = some v := by
  have l : g < V.heap.size := World.block_lt_of_cell? _ _ h
  exact ⟨by rw [hb.cell (by exact l)]; exact h, by rw [hb.cell (by exact l)]; exact h'⟩
set_option maxHeartbeats 2000000 in
theorem isort_any (g k cap : Nat) (sv : Nat → Value) (p0 : Nat → Nat) (w : World) (hk : k ≤ 12) (h0 : SR w g k sv p0 p0 w) (hch : ∀ x, x < k → Chn w g sv (p0 x)) :
    Calls Ybad.prog 25 #[.slice (some ⟨g, 0, none⟩) k cap, .int .i64 0, .int .i64 k, .func (.func 17) #[] #[]] w fun e w' => e = .returned (.tuple #[]) ∧ ∃ p, SR w g k sv p0 p w' ∧ Srt p k := by
  have H0 := hide (And.intro h0 hch)
  clear h0 hch
  go_enter Ybad.func25, Ybad.ntmps25
  go_wp2_with fail
  go_loopw [8] (fun iv wr => ∃ (i : Nat) (p : Nat → Nat), 1 ≤ i ∧ i ≤ 13 ∧ iv = .int .i64 i ∧ SR w g k sv p0 p wr ∧ Srt p i) (fun iv _ => (k - intOf iv).toNat)
  case atStart => exact ⟨1, p0, by omega, by omega, rfl, H0.out.1, fun a b h1 h2 => by omega⟩
  case round =>
    obtain ⟨i, p, hi1, hi2, rfl, hS, hso⟩ := hrel
    by_cases hlt : i < k
    · have i1 : (i : Int) < k := by omega
      have i2 := wrap_in ((i : Int) + 1) (by omega) (by omega)
      have HS := hide (And.intro hS hso)
      clear hS hso
      go_wp2_with fail
      go_loopw [9] (fun jv wr => ∃ (j : Nat) (p : Nat → Nat), jv = .int .i64 j ∧ SR w g k sv p0 p wr ∧ Ins p i j) (fun jv _ => (intOf jv).toNat)
      case atStart => exact ⟨i, p, rfl, HS.out.1, Ins.start HS.out.2⟩
      case round =>
        clear HS
        obtain ⟨j, p, rfl, hS, hin⟩ := hrel
        have HS := hide (And.intro hS hin)
        by_cases hj : j = 0
        · subst hj
          clear hS hin
          go_wp2_with fail
          go_quiet (fail)
          go_wp2
          go_roundw
          case rel => exact ⟨i + 1, p, by omega, by omega, by go_num, HS.out.1.below bdrewN, HS.out.2.done0⟩
          case measure => simp [intOf]; omega
        · obtain ⟨j', hj'⟩ : ∃ j', j = j' + 1 := ⟨j - 1, by omega⟩
          have hle := hin.le
          have r1 := hS.row (j) (by omega)
          have r0 := hS.row j' (by omega)
          have hc : ∀ x, x < k → Chn wr g sv (p x) := fun x hx => by
            obtain ⟨y, hy, hp⟩ := (hS.per (p x)).1 ⟨x, hx, rfl⟩
            rw [← hp]
            exact (H0.out.2 y hy).fw hS.fw
          obtain ⟨b1, l1, c1, e1, hl1, hx1, hb1⟩ := hc (j) (by omega)
          obtain ⟨b0, l0, c0, e0, hl0, hx0, hb0⟩ := hc j' (by omega)
          have hne : p (j) ≠ p j' := fun e => by have := hS.inj _ _ (by omega) (by omega) e; omega
          have hf1 := hS.fz (j) (by omega)
          have hf0 := hS.fz j' (by omega)
          rw [e1] at r1
          rw [e0] at r0
          have i3 : (0 : Int) < j := by omega
          have n3 : 0 < j := by omega
          have n6 : j < k := by omega
          have n7 : j' < k := by omega
          have n8 : j' ≠ j := by omega
          have n9 : j ≠ j' := by omega
          have i4 : IntKind.i64.wrap ((j : Int) - 1) = j' := by rw [wrap_in _ (by omega) (by omega)]; omega
          have i6 : (j : Int) < k := by omega
          have i7 : (j' : Int) < k := by omega
          have HJ := hide hj'
          clear hj' hj
          have HX := hide (And.intro hx1 hx0)
          have HR := hide (And.intro r1 r0)
          have HE := hide (And.intro e1 e0)
          have HNE := hide hne
          clear hS hin hc hx1 hx0 e1 e0 hne
          go_upto_region 4 with fail
          go_cut [34] (fun s wc => s = .bool (decide (p (j) < p j')) ∧ Below wr.heap.size wr wc)
          case first =>
            go_wp2_with fail
            go_region_held3 (fun w' => w'.cell? ⟨g, j, none⟩ = some (.slice (some ⟨b1, 0, none⟩) l1 c1) ∧ w'.cell? ⟨g, j', none⟩ = some (.slice (some ⟨b0, 0, none⟩) l0 c0)) (first | exact S2c HR.out.1 HR.out.2 HB5.out | exact S2c HR.out.1 HR.out.2 ((Below.refl _ _).drew))
              (first
                | (go_at_call 17; refine (cmp_any _ _ _ _ _ _ _ _ _ hl1 hl0 (HX.out.1.below ((Below.refl _ _).drew)) (HX.out.2.below ((Below.refl _ _).drew))).mono ?_; rintro e w5 ⟨⟨cc, rfl, hcc⟩, hw5⟩; have HB5 := hide (un_drew hw5); have HC := hide hcc; clear hw5 hcc))
            all_goals go_wp2
            all_goals go_meet
            all_goals exact ⟨by congr 1; exact decide_eq_decide.2 (HC.out.trans (by unfold xp; omega)), HB5.out⟩
          case rest =>
            obtain ⟨hs34, hbc⟩ := hcut
            subst hs34
            have HS2 := hide (And.intro (HS.out.1.below hbc) HS.out.2)
            clear HS
            obtain ⟨r1, r0⟩ := S2c HR.out.1 HR.out.2 hbc
            have hf1 := HS2.out.1.fz (j) (by omega)
            have hf0 := HS2.out.1.fz j' (by omega)
            have lg : g < wc.heap.size := World.block_lt_of_cell? _ _ r0
            clear HR HX hbc
            generalize hbb : decide (p (j) < p j') = bb
            cases bb with
            | true =>
              have HD : Hid (p (j) < p j') := ⟨of_decide_eq_true hbb⟩
              have HS3 : Hid (SR w g k sv p0 (swp p (j) j') ((wc.setCell ⟨g, j, none⟩ (.slice (some ⟨b0, 0, none⟩) l0 c0)).setCell ⟨g, j', none⟩ (.slice (some ⟨b1, 0, none⟩) l1 c1)).drew) := ⟨by
                have hj' := HJ.out
                subst hj'
                have h := HS2.out.1.swap (j := j') (by have := HS2.out.2.le; omega)
                rw [HE.out.1, HE.out.2] at h
                exact h.below ((Below.refl _ _).drew)⟩
              clear hbb
              go_upto_region 6 with fail
              go_region
              all_goals go_wp2
              all_goals go_roundw
              case rel => exact ⟨j', swp p (j) j', by go_num, HS3.out, by have hj' := HJ.out; subst hj'; exact HS2.out.2.swap HD.out⟩
              case measure => have hj' := HJ.out; simp [intOf]; omega
            | false =>
              have HD : Hid (p j' < p (j)) := ⟨by have := HNE.out; have := of_decide_eq_false hbb; omega⟩
              clear hbb
              go_wp2
              go_roundw
              case rel => exact ⟨i + 1, p, by omega, by omega, by go_num, HS2.out.1, by have hj' := HJ.out; subst hj'; exact HS2.out.2.done HD.out⟩
              case measure => simp [intOf]; omega
    · have i1 : ¬ (i : Int) < k := by omega
      have HS := hide (And.intro hS hso)
      clear hS hso
      go_wp2
      go_end0
      exact ⟨rfl, p, HS.out.1, fun a b h1 h2 => HS.out.2 a b h1 (by omega)⟩
end Go.Proofs.YbulkcggyDoor
