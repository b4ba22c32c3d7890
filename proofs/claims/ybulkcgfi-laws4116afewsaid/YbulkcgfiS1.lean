import Derived.Test.YbulkcgfiProg
import Derived.WalkKit
import Derived.WalkSpells
import Derived.WalkLawsBesides
import Derived.Below
import Derived.Deep.RegionHeld3
import Derived.Deep.QuietTactic
import Derived.BigQuiet
import Derived.BigRegion
import Derived.OwnWalk
import Derived.Laws.AppendOwn
import Derived.Laws.OwnMore
import Derived.Laws.EntriesVeiled
import Derived.Deep.DeepCutAuto
import Derived.Deep.MidRow
import Derived.Sort.AssemblyPlain
import Derived.Lib.Bytealg
import Derived.Lib.BytesEntry
namespace Go.Proofs.Ybulkcgfi
open Go.RowKit
set_option linter.unusedVariables false
set_option linter.unusedSimpArgs false
set_option maxRecDepth 100000
structure Hid (p : Prop) : Prop where
  out : p
theorem hide {p : Prop} (h : p) : Hid p := ⟨h⟩
theorem wrap_in (x : Int) (h0 : -9223372036854775808 ≤ x) (h1 : x ≤ 9223372036854775807) : IntKind.i64.wrap x = x := by
  simp [IntKind.wrap, IntKind.signed, IntKind.bits]; omega
/-- An ID's cells. -/
def idc (l : List UInt8) : List Value := l.map fun b => .int .u8 b.toNat
theorem idc_len (l : List UInt8) : (idc l).length = l.length := by simp [idc]
theorem load_id (w : World) (A : Nat) (a : List UInt8) (ha : w.rangeAt A 0 (idc a)) : (Extern.Bytes.loadBytes ⟨A, 0, none⟩ a.length .empty).run Yba.prog w = .ok ⟨a.toArray⟩ w := by
  have h := Lib.run_loadBytesX (P := Yba.prog) w (a.map fun b => (b.toNat : Int)) ⟨A, 0, none⟩ .empty (fun j x hj => by
    rw [Addr.add_mid, Nat.zero_add]
    have := ha j (.int .u8 x) (by
      unfold idc
      rw [List.getElem?_map] at hj ⊢
      cases hq : a[j]? with
      | none => rw [hq] at hj; cases hj
      | some b => rw [hq] at hj; simp at hj; rw [← hj]; rfl)
    simpa using this)
  rw [List.length_map] at h
  rw [h]
  congr 1
  have e : Lib.bytesOf (a.map fun b => (b.toNat : Int)) = a := by
    unfold Lib.bytesOf
    rw [List.map_map]
    conv => rhs; rw [← List.map_id a]
    refine List.map_congr_left (fun b _ => ?_)
    simp
  rw [e]
  simp
theorem cmp_lt : ∀ (a b : List UInt8), Lib.compareBytes a b < 0 ↔ a < b
  | [], [] => by simp [Lib.compareBytes]
  | [], y :: ys => by simp [Lib.compareBytes]
  | x :: xs, [] => by simp [Lib.compareBytes]
  | x :: xs, y :: ys => by
    have ih := cmp_lt xs ys
    unfold Lib.compareBytes
    rw [List.cons_lt_cons_iff]
    by_cases h1 : x < y
    · simp [h1]
    · by_cases h2 : y < x
      · have hne : x ≠ y := fun e => by subst e; exact UInt8.lt_irrefl _ h2
        simp [h1, h2, hne]
      · have he : x = y := UInt8.le_antisymm (UInt8.not_lt.1 h2) (UInt8.not_lt.1 h1)
        subst he
        simp [UInt8.lt_irrefl, ih]
/-- bytes.Compare at two rows of bytes. -/
theorem cmp_any (A B : Nat) (a b : List UInt8) (w : World) (hl : a.length = 32) (hl' : b.length = 32) (ha : w.rangeAt A 0 (idc a)) (hb : w.rangeAt B 0 (idc b)) :
    Calls Yba.prog 14 #[.slice (some ⟨A, 0, none⟩) 32 32, .slice (some ⟨B, 0, none⟩) 32 32] w fun e w' => e = .returned (.int .i64 (Lib.compareBytes a b)) ∧ w' = w := by
  have h1 := load_id w A a ha
  have h2 := load_id w B b hb
  rw [hl] at h1
  rw [hl'] at h2
  have hrun : (Extern.BytealgCompare.compare #[.slice (some ⟨A, 0, none⟩) 32 32, .slice (some ⟨B, 0, none⟩) 32 32]).run Yba.prog w = .ok (.int .i64 (Lib.compareBytes a b)) w := by
    have e : Extern.BytealgCompare.compare #[.slice (some ⟨A, 0, none⟩) 32 32, .slice (some ⟨B, 0, none⟩) 32 32] = (do pure (goInt (Extern.BytealgCompare.cmp (← Extern.Bytes.loadBytes ⟨A, 0, none⟩ 32 .empty) (← Extern.Bytes.loadBytes ⟨B, 0, none⟩ 32 .empty)))) := rfl
    rw [e]
    simp [h1, h2, Lib.cmp_eq, goInt]
  have HR := hide hrun
  clear h1 h2 hrun ha hb
  go_enter Yba.func14, Yba.ntmps14
  go_wp2
  rw [run_callFunc_extern Yba.func25 (by kernel_rfl) (by kernel_rfl) (by kernel_rfl) (e := Extern.BytealgCompare.compare) (by kernel_rfl), HR.out]
  simp only [Result.andThen]
  rw [Oper.upon_value]
  go_wp2
  go_ret
  exact ⟨rfl, rfl⟩
/-- byteOrder. -/
theorem order_any (a b : List UInt8) (w : World) (hl : a.length = 32) (hl' : b.length = 32) :
    Calls Yba.prog 8 #[.agg (idc a).toArray, .agg (idc b).toArray] w fun e w' => (∃ c : Int, e = .returned (.int .i64 c) ∧ (c < 0 ↔ a < b)) ∧ Below w.heap.size w w' := by
  obtain ⟨V, hV⟩ : ∃ V, V = (w.alloc (.cells (idc a).toArray 26)).alloc (.cells (idc b).toArray 26) := ⟨_, rfl⟩
  obtain ⟨A, hA⟩ : ∃ A, A = w.heap.size := ⟨_, rfl⟩
  obtain ⟨B, hB⟩ : ∃ B, B = w.heap.size + 1 := ⟨_, rfl⟩
  have h1 : V.heap[A]? = some (.cells (idc a).toArray 26) := by rw [hV, hA, heap_alloc_old _ _ (by simp)]; exact heap_alloc_new _ _
  have h2 : V.heap[B]? = some (.cells (idc b).toArray 26) := by
    have := heap_alloc_new (w.alloc (.cells (idc a).toArray 26)) (.cells (idc b).toArray 26)
    rw [hV, hB]; simpa using this
  have ha : V.rangeAt A 0 (idc a) := fun j v hv => by rw [Nat.zero_add]; simp only [World.cell?, h1]; simpa using hv
  have hb : V.rangeAt B 0 (idc b) := fun j v hv => by rw [Nat.zero_add]; simp only [World.cell?, h2]; simpa using hv
  have hbel : Below w.heap.size w V := by rw [hV]; exact ((Below.refl _ _).alloc (Nat.le_refl _) _).alloc (by simp) _
  have HC := hide (fun m => cmp_any A B a b (V.drewN m) hl hl' (fun j v hv => ha j v hv) (fun j v hv => hb j v hv))
  have HV := hide (And.intro hV (And.intro hA hB))
  have HB := hide hbel
  clear hV hA hB h1 h2 ha hb hbel
  go_enter Yba.func8, Yba.ntmps8
  go_upto_region 1 with fail
  rw [← HV.out.1, ← HV.out.2.2, ← HV.out.2.1]
  go_quiet ((go_at_call 14; exact Calls.quiet_of_same (HC.out _)))
  go_wp2
  go_ret
  exact ⟨⟨_, rfl, cmp_lt a b⟩, ⟨HB.out.os, HB.out.tape, HB.out.output, HB.out.size, HB.out.block⟩⟩
end Go.Proofs.Ybulkcgfi
