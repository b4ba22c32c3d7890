import Derived.Test.YbulkcgfwProg
import Derived.WalkKit
import Derived.WalkSpells
import Derived.WalkLawsBesides
import Derived.Below
import Derived.Deep.RegionHeld3
import Derived.Deep.QuietTactic
import Derived.BigQuiet
import Derived.BigRegion
import Derived.OwnWalk
import Derived.Laws.AppendOwn
import Derived.Laws.OwnMore
import Derived.Laws.EntriesVeiled
namespace Go.Proofs.Ybulkcgfw
open Go.RowKit
set_option linter.unusedVariables false
set_option linter.unusedSimpArgs false
structure Hid (p : Prop) : Prop where
  out : p
theorem hide {p : Prop} (h : p) : Hid p := ⟨h⟩
theorem wrap_in (x : Int) (h0 : -9223372036854775808 ≤ x) (h1 : x ≤ 9223372036854775807) : IntKind.i64.wrap x = x := by
  simp [IntKind.wrap, IntKind.signed, IntKind.bits]; omega
theorem bdrewN {B n : Nat} {a w : World} (h : Below B a w) : Below B a (w.drewN n) := ⟨h.os, h.tape, h.output, h.size, h.block⟩
theorem Yba.info5 : (Yba.prog.info? 5).map (fun i => (i.zero, i.size, i.bytes)) = some (some (.int .u8 0), 1, 1) := by kernel_rfl
theorem Yba.info4 : (Yba.prog.info? 4).map (fun i => (i.zero, i.size, i.bytes)) = some (some (.bool false), 1, 1) := by kernel_rfl
/-- Nothing but the blocks of S, and new ones, has changed. -/
structure Fw (S : Nat → Prop) (w w' : World) : Prop where
  os : w'.os = w.os
  tape : w'.tape = w.tape
  output : w'.output = w.output
  size : w.heap.size ≤ w'.heap.size
  block : ∀ g, g < w.heap.size → ¬ S g → w'.heap[g]? = w.heap[g]?
theorem Fw.refl (S : Nat → Prop) (w : World) : Fw S w w := ⟨rfl, rfl, rfl, Nat.le_refl _, fun _ _ _ => rfl⟩
theorem Fw.trans {S : Nat → Prop} {u v w : World} (h : Fw S u v) (k : Fw S v w) : Fw S u w :=
  ⟨k.os.trans h.os, k.tape.trans h.tape, k.output.trans h.output, Nat.le_trans h.size k.size, fun g h1 h2 => (k.block g (Nat.lt_of_lt_of_le h1 h.size) h2).trans (h.block g h1 h2)⟩
theorem Fw.of_below {S : Nat → Prop} {w w' : World} (h : Below w.heap.size w w') : Fw S w w' := ⟨h.os, h.tape, h.output, h.size, fun g h1 _ => h.block g h1⟩
theorem Fw.set {S : Nat → Prop} {w : World} (a : Addr) (ha : S a.block) (v : Value) : Fw S w (w.setCell a v) :=
  ⟨rfl, rfl, rfl, by simp, fun g h1 h2 => Below.heap_setCell _ _ _ _ (fun e => h2 (e ▸ ha))⟩
theorem Fw.grown {S : Nat → Prop} {w w' : World} {row : Option Nat} (h : w.grownBy w' row) (hS : ∀ k, row = some k → k < w.heap.size → S k) : Fw S w w' :=
  ⟨h.os, h.tape, h.output, h.size, fun g h1 h2 => h.block g h1 (fun e => h2 (hS g e.symm h1))⟩
theorem Fw.cell {S : Nat → Prop} {w w' : World} (h : Fw S w w') {a : Addr} (ha : a.block < w.heap.size) (hS : ¬ S a.block) : w'.cell? a = w.cell? a := World.cell?_of_block (h.block _ ha hS)
theorem Fw.frozen {S : Nat → Prop} {w w' : World} (h : Fw S w w') {a : Addr} (ha : a.block < w.heap.size) (hS : ¬ S a.block) : w'.frozen? a = w.frozen? a := World.frozen?_of_block (h.block _ ha hS)
theorem Fw.wide {S S' : Nat → Prop} {w w' : World} (h : Fw S w w') (hs : ∀ g, S g → S' g) : Fw S' w w' := ⟨h.os, h.tape, h.output, h.size, fun g h1 h2 => h.block g h1 (fun e => h2 (hs g e))⟩
set_option maxRecDepth 100000 in
set_option maxHeartbeats 400000 in
theorem new_any (s : ByteArray) (w : World) :
    Calls Yba.prog 4 #[.string s] w fun e w' => e = .returned (.iface 45 (.pointer (some ⟨w.heap.size, 0, none⟩))) ∧ w' = w.alloc (.cells #[.string s] 47) := by
  go_enter Yba.func4, Yba.ntmps4
  go_wp2
  go_ret
  exact ⟨rfl, rfl⟩
set_option maxRecDepth 100000 in
set_option maxHeartbeats 400000 in
/-- zzs4117aw.Write, the first time -/
theorem write_any (ob pb len cap : Nat) (news : List Value) (w : World) (hl : news.length = len) (hlen : len ≤ 65536) (h0 : w.cell? ⟨ob, 0, none⟩ = some (.slice none 0 0)) (hf : w.frozen? ⟨ob, 0, none⟩ = false) (hp : ∀ j u, news[j]? = some u → w.cell? ((⟨pb, 0, none⟩ : Addr).add j) = some u) (h1 : ∀ u ∈ news, u.oneCell' = true) :
    Calls Yba.prog 22 #[.pointer (some ⟨ob, 0, none⟩), .slice (some ⟨pb, 0, none⟩) len cap] w fun e w' => ∃ v, e = .returned (.tuple #[.int .i64 len, .nilIface]) ∧ w'.cell? ⟨ob, 0, none⟩ = some v ∧ w'.ownsRow w.heap.size 5 1 v len news ∧ Fw (fun g => g = ob) w w' := by
  obtain ⟨i0, hi, hz0, hz1, hz2⟩ := info_parts Yba.info5
  have HP := hide (And.intro hp (And.intro h1 hl))
  clear hp h1 hl
  have hob : ob < w.heap.size := World.block_lt_of_cell? _ _ h0
  go_enter Yba.func22, Yba.ntmps22
  go_wp2_with (first
    | (at_builtin; refine wpList_append_own _ rfl _ _ 27 rfl w.heap.size 5 i0 (.int .u8 0) 1 1 Yba.underlying27 hi hz0 hz1 hz2 rfl (by decide) _ _ _ rfl (World.ownsRow_nil _ _ _ _) ⟨pb, 0, none⟩ len cap news rfl (by rw [HP.out.2.2, Nat.mul_one]) HP.out.1 HP.out.2.1 (by unfold maxLen; omega) (by omega) (Nat.le_refl _) ?_))
  intro v w1 hown hgrow _
  try rw [Nat.zero_add, List.nil_append] at hown
  have hfw : Fw (fun g => g = ob) w w1 := Fw.grown hgrow (fun k hk _ => by simp [Value.ownBlock] at hk)
  have c1 : w1.cell? ⟨ob, 0, none⟩ = some (.slice none 0 0) := by rw [World.cell?_of_block (w := w) (hgrow.block ob hob (by simp [Value.ownBlock]))]; exact h0
  have f1 : w1.frozen? ⟨ob, 0, none⟩ = false := by rw [World.frozen?_of_block (w := w) (hgrow.block ob hob (by simp [Value.ownBlock]))]; exact hf
  have HR : Hid ((w1.setCell ⟨ob, 0, none⟩ v).cell? ⟨ob, 0, none⟩ = some v ∧ (w1.setCell ⟨ob, 0, none⟩ v).ownsRow w.heap.size 5 1 v len news ∧ Fw (fun g => g = ob) w (w1.setCell ⟨ob, 0, none⟩ v)) := ⟨World.cell?_setCell_same _ _ _ c1, ownsRow_setCell_below hown (by exact hob) _, hfw.trans (Fw.set (S := fun g => g = ob) ⟨ob, 0, none⟩ rfl v)⟩
  obtain ⟨a, n, c, rfl⟩ : ∃ a n c, v = .slice a n c := by
    obtain ⟨_, (⟨h, _⟩ | ⟨g, cap, cur, h, _⟩)⟩ := hown
    · exact ⟨_, _, _, h⟩
    · exact ⟨_, _, _, h⟩
  clear hgrow hown hfw HP
  go_wp2
  go_ret2
  exact ⟨_, rfl, HR.out⟩
end Go.Proofs.Ybulkcgfw
