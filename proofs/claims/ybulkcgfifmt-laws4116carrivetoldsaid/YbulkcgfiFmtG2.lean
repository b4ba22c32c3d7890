import Derived.Test.YbulkcgfiFmtG1
import Derived.OwnWalk
import Derived.Laws.AppendOwn
import Derived.Laws.BitsLemmas
import Derived.Laws.Bits64b
namespace Go.Proofs.YbulkcgfiFmt
open Go.RowKit Go.Extern.Stop Go.Stop Go.Extern
set_option linter.unusedVariables false
set_option linter.unusedSimpArgs false
theorem Ybaf.info5 : (Ybaf.prog.info? 5).map (fun i => (i.zero, i.size, i.bytes)) = some (some (.int .u8 0), 1, 1) := by kernel_rfl
def vlen (n : Nat) : Nat := if h : n < 128 then 1 else vlen (n / 128) + 1
def dg (n i : Nat) : Nat := n / 128 ^ i % 128
def vb (n i : Nat) : Nat := dg n i + (if 0 < i then 128 else 0)
def venc (n j : Nat) : List Nat := (List.range j).map fun m => vb n (vlen n - 1 - m)
theorem vlen_lt {n k : Nat} (h : 0 < n / 128 ^ k) : k < vlen n := by
  induction k generalizing n with
  | zero => unfold vlen; split <;> omega
  | succ k ih =>
    have e : n / 128 ^ (k + 1) = n / 128 / 128 ^ k := by rw [Nat.pow_succ, Nat.mul_comm, Nat.div_div_eq_div_mul]
    rw [e] at h
    have := ih h
    unfold vlen
    split
    · rename_i h1
      have : n / 128 = 0 := by omega
      rw [this] at h; simp at h
    · omega
theorem vlen_eq {n k : Nat} (hk : k < vlen n) (h : n / 128 ^ (k + 1) = 0) : vlen n = k + 1 := by
  induction k generalizing n with
  | zero =>
    simp at h
    unfold vlen
    rw [dif_pos (by omega)]
  | succ k ih =>
    have e : n / 128 ^ (k + 1 + 1) = n / 128 / 128 ^ (k + 1) := by rw [Nat.pow_succ 128 (k + 1), Nat.mul_comm, Nat.div_div_eq_div_mul]
    rw [e] at h
    unfold vlen at hk ⊢
    split at hk
    · omega
    · rename_i h1
      rw [dif_neg h1, ih (by omega) h]
theorem vlen_le {n : Nat} (h : n < 18446744073709551616) : vlen n ≤ 10 := by
  have hp : 0 < vlen n := by unfold vlen; split <;> omega
  by_cases h10 : vlen n ≤ 10
  · exact h10
  · exfalso
    have : ∀ k m, k + 1 < vlen m → 128 ^ (k + 1) ≤ m := by
      intro k
      induction k with
      | zero => intro m hm; unfold vlen at hm; split at hm <;> omega
      | succ k ih =>
        intro m hm
        unfold vlen at hm
        split at hm
        · omega
        · have := ih (m / 128) (by omega)
          rw [Nat.pow_succ]; omega
    have := this 9 n (by omega)
    omega
theorem own_below {w w' : World} {B n : Nat} {v : Value} {xs : List Value} (h : w.ownsRow B 5 1 v n xs) (hb : Below w.heap.size w w') : w'.ownsRow B 5 1 v n xs :=
  h.kept (row := none) ⟨hb.os, hb.tape, hb.output, hb.size, fun k hk _ => hb.block k hk⟩ (by
    cases h : v.ownBlock with
    | none => left; rfl
    | some _ => right; simp)
def tagAt (w : World) (g t : Nat) : Prop := ∃ c fr, w.heap[g]? = some (.cells c t fr)
theorem tag_setCell {w : World} {g t : Nat} (h : tagAt w g t) (a : Addr) (v : Value) : tagAt (w.setCell a v) g t := by
  obtain ⟨c, fr, h⟩ := h
  unfold tagAt World.setCell
  simp only [Array.getElem?_modify, h]
  split
  · exact ⟨_, _, rfl⟩
  · exact ⟨_, _, rfl⟩
theorem tagAt.alloc {w : World} {g t : Nat} (h : tagAt w g t) (o : Obj) : tagAt (w.alloc o) g t := by
  obtain ⟨c, fr, h⟩ := h
  have hl := (Array.getElem?_eq_some_iff.1 h).1
  refine ⟨c, fr, ?_⟩
  show (w.heap.push o)[g]? = _
  rw [Array.getElem?_push_lt hl, ← h, Array.getElem?_eq_getElem hl]
theorem tag_lt {w : World} {g t : Nat} (h : tagAt w g t) : g < w.heap.size := by
  obtain ⟨c, fr, h⟩ := h
  exact (Array.getElem?_eq_some_iff.1 h).1
theorem tag_grown {w w' : World} {row : Option Nat} {g t : Nat} (h : tagAt w g t) (hg : w.grownBy w' row) (hr : some g ≠ row) : tagAt w' g t := by
  have := tag_lt h
  obtain ⟨c, fr, h⟩ := h
  exact ⟨c, fr, by rw [hg.block g this hr]; exact h⟩
theorem own_tag_ne {w : World} {B n g t : Nat} {v : Value} {xs : List Value} (h : w.ownsRow B 5 1 v n xs) (ht : tagAt w g t) (h5 : t ≠ 5) : some g ≠ v.ownBlock := by
  obtain ⟨c, fr, ht⟩ := ht
  obtain ⟨_, (⟨rfl, _⟩ | ⟨g', cap, cur, rfl, _, hh, _⟩)⟩ := h
  · simp [Value.ownBlock]
  · intro e
    simp [Value.ownBlock] at e
    subst e
    rw [ht] at hh
    injection hh with hh
    injection hh with e1 e2 e3
    exact h5 e2
theorem own_grown_below {w w' w0 : World} {B n : Nat} {v : Value} {xs : List Value} (h : w.ownsRow B 5 1 v n xs) (hg : w.grownBy w' v.ownBlock) (hb : Below B w0 w) (hB : B ≤ w0.heap.size) : Below B w0 w' :=
  ⟨hg.os.trans hb.os, hg.tape.trans hb.tape, hg.output.trans hb.output, Nat.le_trans hb.size hg.size, fun k hk => by
    by_cases hl : k < w.heap.size
    · have hr : some k ≠ v.ownBlock := fun e => by have := (h.lt k e.symm).1; omega
      exact (hg.block k hl hr).trans (hb.block k hk)
    · exfalso; have := hb.size; omega⟩
theorem and_u64_127 (x : Nat) (h : x < 18446744073709551616) : bits .and .u64 (x : Int) 127 = ((x % 128 : Nat) : Int) := by
  rw [show (127 : Int) = ((127 : Nat) : Int) from rfl, bits_and_u64_nat x 127 h (by omega), show (127 : Nat) = 2 ^ 7 - 1 from rfl, Nat.and_two_pow_sub_one_eq_mod]
theorem or_u8_128 (x : Nat) (h : x < 128) : bits .or .u8 (x : Int) 128 = ((x + 128 : Nat) : Int) := by
  have : ∀ y : Fin 128, bits .or .u8 ((y.val : Nat) : Int) 128 = ((y.val + 128 : Nat) : Int) := by decide +kernel
  exact this ⟨x, h⟩
theorem dg_lt (n i : Nat) : dg n i < 128 := Nat.mod_lt _ (by omega)
theorem venc_succ (n j : Nat) : venc n (j + 1) = venc n j ++ [vb n (vlen n - 1 - j)] := by simp [venc, List.range_succ]
structure VG (w wr : World) (n k : Nat) : Prop where
  done : ∀ i, i < k → wr.cell? ⟨w.heap.size, i, none⟩ = some (.int .u8 (dg n i))
  rest : ∀ i, k ≤ i → i < 10 → wr.cell? ⟨w.heap.size, i, none⟩ = some (.int .u8 0)
  fz : ∀ i, wr.frozen? ⟨w.heap.size, i, none⟩ = false
  bel : Below w.heap.size w wr
  tag : tagAt wr w.heap.size 69
def g10 : Array Value := #[.int .u8 0, .int .u8 0, .int .u8 0, .int .u8 0, .int .u8 0, .int .u8 0, .int .u8 0, .int .u8 0, .int .u8 0, .int .u8 0]
theorem VG.start (w : World) (n : Nat) : VG w (w.alloc (.cells g10 69)) n 0 := by
  refine ⟨fun i h => by omega, fun i _ hi => ?_, fun i => by simp, (Below.refl _ _).alloc (Nat.le_refl _) _, ⟨g10, (0, 0), ?_⟩⟩
  · rw [World.cell?_alloc_at _ _ _ _ rfl]
    rcases (by omega : i = 0 ∨ i = 1 ∨ i = 2 ∨ i = 3 ∨ i = 4 ∨ i = 5 ∨ i = 6 ∨ i = 7 ∨ i = 8 ∨ i = 9) with rfl | rfl | rfl | rfl | rfl | rfl | rfl | rfl | rfl | rfl <;> rfl
  · exact Array.getElem?_push_size
theorem VG.step {w wr : World} {n k : Nat} (h : VG w wr n k) (hk : k < 10) : VG w (wr.setCell ⟨w.heap.size, k, none⟩ (.int .u8 (dg n k))) n (k + 1) := by
  refine ⟨fun i hi => ?_, fun i h1 h2 => ?_, fun i => by rw [World.frozen?_setCell]; exact h.fz i, h.bel.setCell (by simp) _, tag_setCell h.tag _ _⟩
  · by_cases e : i = k
    · subst e
      rw [World.cell?_setCell_same _ _ _ (h.rest i (Nat.le_refl _) hk)]
    · rw [World.cell?_setCell_other _ _ _ _ (by intro e'; injection e' with _ e2 _; exact e e2.symm)]
      exact h.done i (by omega)
  · rw [World.cell?_setCell_other _ _ _ _ (by intro e'; injection e' with _ e2 _; omega)]
    exact h.rest i (by omega) h2
/-- The state of the second loop. -/
structure VO (w wr : World) (B n j : Nat) (xs : List Value) (v : Value) : Prop where
  done : ∀ i, i < vlen n → wr.cell? ⟨w.heap.size, i, none⟩ = some (.int .u8 (dg n i))
  tag : tagAt wr w.heap.size 69
  own : wr.ownsRow B 5 1 v (xs.length + j) (xs ++ (venc n j).map fun b => .int .u8 b)
  bel : Below B w wr
set_option maxRecDepth 100000 in
set_option maxHeartbeats 1000000 in
theorem varint_any (B : Nat) (v : Value) (xs : List Value) (n : Nat) (w : World) (hn : n < 18446744073709551616) (hB : B ≤ w.heap.size) (hl : xs.length ≤ 100000) (hown : w.ownsRow B 5 1 v xs.length xs) :
    Calls Ybaf.prog 10 #[v, .int .u64 n] w fun e w' => ∃ v', e = .returned v' ∧ w'.ownsRow B 5 1 v' (xs.length + vlen n) (xs ++ (venc n (vlen n)).map fun b => .int .u8 b) ∧ Below B w w' := by
  have h10 := vlen_le hn
  have hp : 0 < vlen n := by unfold vlen; split <;> omega
  have HO := hide hown
  clear hown
  obtain ⟨i0, hi, hz0, hz1, hz2⟩ := info_parts Ybaf.info5
  go_enter Ybaf.func10, Ybaf.ntmps10
  go_wp2
  go_loopw [1, 6] (fun nv kv wr => ∃ k : Nat, k < vlen n ∧ kv = .int .i64 k ∧ nv = .int .u64 ((n / 128 ^ k : Nat) : Int) ∧ VG w wr n k) (fun _ kv _ => 10 - (intOf kv).toNat)
  case atStart => exact ⟨0, hp, rfl, by simp, VG.start w n⟩
  case round =>
    obtain ⟨k, hk, rfl, rfl, hg⟩ := hrel
    obtain ⟨m, hm⟩ : ∃ m, n / 128 ^ k = m := ⟨_, rfl⟩
    have hk10 : k < 10 := by omega
    have g1 := hg.rest k (Nat.le_refl _) hk10
    have g2 := hg.fz k
    have hml : m < 18446744073709551616 := by rw [← hm]; exact Nat.lt_of_le_of_lt (Nat.div_le_self _ _) hn
    have hset : bits BinOp.and IntKind.u64 (↑m) 127 % 256 = ((dg n k : Nat) : Int) := by
      rw [and_u64_127 m hml]; unfold dg; rw [hm]; omega
    have hnext : n / 128 ^ (k + 1) = m / 128 := by rw [← hm, Nat.div_div_eq_div_mul, ← Nat.pow_succ]
    have HM := hide (And.intro hm (And.intro hset hnext))
    have HG := hide (hg.step hk10)
    rw [hm]
    clear hm hg hset hnext
    by_cases hz : m / 128 = 0
    · have hz' : ((m : Int) / 128 == 0) = true := by simp; omega
      have HL := hide (vlen_eq hk (by rw [HM.out.2.2]; exact hz))
      go_wp2
      rw [HM.out.2.1]
      go_loopw [0, 7] (fun v iv wr => ∃ j : Nat, j ≤ k + 1 ∧ iv = .int .i64 ((k : Int) - j) ∧ VO w wr B n j xs v) (fun _ iv _ => (intOf iv + 1).toNat)
      case atStart => exact ⟨0, Nat.zero_le _, by simp, ⟨fun i hi => HG.out.done i (by rw [← HL.out]; exact hi), HG.out.tag, by simpa [venc] using own_below HO.out HG.out.bel, HG.out.bel.mono hB⟩⟩
      case round =>
        clear HG
        obtain ⟨j, hj, rfl, ho⟩ := hrel
        by_cases hjk : j < k + 1
        · obtain ⟨i, hi'⟩ : ∃ i : Nat, (k : Int) - j = i := ⟨k - j, by omega⟩
          have hik : i ≤ k := by omega
          have hi10 : (i : Int) < 10 := by omega
          have hi11 : i < 10 := by omega
          have c1 := ho.done i (by rw [HL.out]; omega)
          obtain ⟨d, hd⟩ : ∃ d, dg n i = d := ⟨_, rfl⟩
          have hd128 : d < 128 := by rw [← hd]; exact dg_lt n i
          rw [hd] at c1
          have hown := ho.own
          have hvb : vb n (vlen n - 1 - j) = d + (if 0 < i then 128 else 0) := by
            rw [HL.out, show k + 1 - 1 - j = i by omega]; unfold vb; rw [hd]
          have HV := hide hvb
          have HOO := hide ho
          have hor := or_u8_128 d hd128
          rw [hi']
          clear ho hd hvb
          by_cases hi0 : 0 < i
          · have hi0' : decide (0 < i) = true := by simpa using hi0
            go_wp2_with (first
              | (at_builtin; refine wpList_append_own _ rfl _ _ 23 rfl B 5 i0 (.int .u8 0) 1 1 Ybaf.underlying23 hi hz0 hz1 hz2 rfl (by decide) _ _ _ rfl (hown.alloc _) ⟨wr.heap.size, 0, none⟩ 1 1 [.int .u8 ((d + 128 : Nat) : Int)] rfl rfl ?c1 ?c2 ?c3 ?c4 ?c5 ?_)
              | go_in)
            case c1 =>
              intro jj u hjj
              match jj, hjj with
              | 0, hjj => simp at hjj; subst hjj; simp [Addr.add]
            case c2 => intro u hu; simp at hu; subst hu; rfl
            case c3 => unfold maxLen; omega
            case c4 => omega
            case c5 => have := HOO.out.bel.size; simp; omega
            intro v' w1 hown' hgrow _
            have hne := own_tag_ne (hown.alloc (.cells #[.int .u8 ((d + 128 : Nat) : Int)] 5)) ((HOO.out.tag).alloc _) (by decide)
            have HR : Hid (VO w w1 B n (j + 1) xs v') := by
              refine ⟨fun ii hii => hgrow.cell (cell_later ((Below.refl _ _).alloc (Nat.le_refl _) _) (HOO.out.done ii hii)) (by exact hne), tag_grown ((HOO.out.tag).alloc _) hgrow hne, ?_, own_grown_below (hown.alloc _) hgrow (HOO.out.bel.alloc (Nat.le_trans hB HOO.out.bel.size) _) hB⟩
              rw [venc_succ, HV.out]
              simp only [hi0, if_true, if_false]
              simpa [Nat.add_assoc] using hown'
            clear hown' hgrow hown hne
            go_wp2
            go_roundw
            case rel => exact ⟨j + 1, by omega, by go_num, HR.out⟩
            case measure => simp [intOf] <;> omega
          · have hi0' : decide (0 < i) = false := by simpa using hi0
            go_wp2_with (first
              | (at_builtin; refine wpList_append_own _ rfl _ _ 23 rfl B 5 i0 (.int .u8 0) 1 1 Ybaf.underlying23 hi hz0 hz1 hz2 rfl (by decide) _ _ _ rfl (hown.alloc _) ⟨wr.heap.size, 0, none⟩ 1 1 [.int .u8 ((d : Nat) : Int)] rfl rfl ?c1 ?c2 ?c3 ?c4 ?c5 ?_)
              | go_in)
            case c1 =>
              intro jj u hjj
              match jj, hjj with
              | 0, hjj => simp at hjj; subst hjj; simp [Addr.add]
            case c2 => intro u hu; simp at hu; subst hu; rfl
            case c3 => unfold maxLen; omega
            case c4 => omega
            case c5 => have := HOO.out.bel.size; simp; omega
            intro v' w1 hown' hgrow _
            have hne := own_tag_ne (hown.alloc (.cells #[.int .u8 ((d : Nat) : Int)] 5)) ((HOO.out.tag).alloc _) (by decide)
            have HR : Hid (VO w w1 B n (j + 1) xs v') := by
              refine ⟨fun ii hii => hgrow.cell (cell_later ((Below.refl _ _).alloc (Nat.le_refl _) _) (HOO.out.done ii hii)) (by exact hne), tag_grown ((HOO.out.tag).alloc _) hgrow hne, ?_, own_grown_below (hown.alloc _) hgrow (HOO.out.bel.alloc (Nat.le_trans hB HOO.out.bel.size) _) hB⟩
              rw [venc_succ, HV.out]
              simp only [hi0, if_true, if_false]
              simpa [Nat.add_assoc] using hown'
            clear hown' hgrow hown hne
            go_wp2
            go_roundw
            case rel => exact ⟨j + 1, by omega, by go_num, HR.out⟩
            case measure => simp [intOf] <;> omega
        · obtain rfl : j = k + 1 := by omega
          have hex : (k : Int) - ((k + 1 : Nat) : Int) = -1 := by omega
          rw [hex]
          have HOO := hide ho
          clear ho
          go_wp2
          go_ret
          exact ⟨_, rfl, by rw [HL.out]; exact HOO.out.own, HOO.out.bel⟩
    · have hz' : ((m : Int) / 128 == 0) = false := by simp; omega
      go_wp2
      rw [HM.out.2.1]
      go_roundw
      case rel => exact ⟨k + 1, vlen_lt (by rw [HM.out.2.2]; omega), by go_num, by rw [HM.out.2.2]; simp, HG.out⟩
      case measure => simp [intOf]; omega
end Go.Proofs.YbulkcgfiFmt
