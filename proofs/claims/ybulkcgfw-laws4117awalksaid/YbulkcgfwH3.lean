import Derived.Test.YbulkcgfwH2
import Derived.Lib.ConvBytes
import Derived.LaidEqlPtr
namespace Go.Proofs.Ybulkcgfw
open Go.RowKit
set_option linter.unusedVariables false
set_option linter.unusedSimpArgs false
/-- Two own rows of other kinds, or of other first cells, lie in other blocks. -/
theorem own_apart {w : World} {B B' n n' size size' g g' cap cap' : Nat} {e e' : TypeId} {xs xs' : List Value} (h : w.ownsRow B e size (.slice (some ⟨g, 0, none⟩) n cap) n xs) (h' : w.ownsRow B' e' size' (.slice (some ⟨g', 0, none⟩) n' cap') n' xs') (hd : e ≠ e' ∨ ∃ a b, xs[0]? = some a ∧ xs'[0]? = some b ∧ a ≠ b) : g ≠ g' := by
  obtain ⟨l1, (⟨h1, _⟩ | ⟨g1, c1, cur, h1, _, h3, _, _, _, h7⟩)⟩ := h
  · simp at h1
  obtain ⟨l2, (⟨h1', _⟩ | ⟨g2, c2, cur', h1', _, h3', _, _, _, h7'⟩)⟩ := h'
  · simp at h1'
  simp only [Value.slice.injEq, Option.some.injEq, Addr.mk.injEq, and_true, true_and] at h1 h1'
  obtain ⟨rfl, rfl⟩ := h1
  obtain ⟨rfl, rfl⟩ := h1'
  intro hg
  subst hg
  rw [h3] at h3'
  injection h3' with h3'
  injection h3' with q1 q2 _
  rcases hd with hd | ⟨a, b, ha, hb, hne⟩
  · exact hd q2
  · subst q1
    rw [← h7] at ha
    rw [← h7'] at hb
    rw [List.getElem?_take] at ha hb
    split at ha
    · split at hb
      · rw [ha] at hb
        injection hb with hb
        exact hne hb
      · cases hb
    · cases ha
/-- An own row is kept where another one grows. -/
theorem own_keep {w w' : World} {B n size g g' cap : Nat} {e : TypeId} {xs : List Value} (h : w.ownsRow B e size (.slice (some ⟨g, 0, none⟩) n cap) n xs) (hg : w.grownBy w' (some g')) (hne : g ≠ g') : w'.ownsRow B e size (.slice (some ⟨g, 0, none⟩) n cap) n xs :=
  h.kept hg (Or.inr (by simp [Value.ownBlock]; exact hne))
/-- Below B only the blocks of S have changed. -/
structure Fb (B : Nat) (S : Nat → Prop) (w w' : World) : Prop where
  os : w'.os = w.os
  tape : w'.tape = w.tape
  output : w'.output = w.output
  size : w.heap.size ≤ w'.heap.size
  block : ∀ g, g < B → ¬ S g → w'.heap[g]? = w.heap[g]?
theorem Fb.refl (B : Nat) (S : Nat → Prop) (w : World) : Fb B S w w := ⟨rfl, rfl, rfl, Nat.le_refl _, fun _ _ _ => rfl⟩
theorem Fb.trans {B : Nat} {S : Nat → Prop} {u v w : World} (h : Fb B S u v) (k : Fb B S v w) : Fb B S u w :=
  ⟨k.os.trans h.os, k.tape.trans h.tape, k.output.trans h.output, Nat.le_trans h.size k.size, fun g h1 h2 => (k.block g h1 h2).trans (h.block g h1 h2)⟩
theorem Fb.of_fw {B : Nat} {S : Nat → Prop} {w w' : World} (h : Fw S w w') (hB : B ≤ w.heap.size) : Fb B S w w' := ⟨h.os, h.tape, h.output, h.size, fun g h1 h2 => h.block g (by omega) h2⟩
theorem Fb.of_below {B : Nat} {S : Nat → Prop} {w w' : World} (h : Below B w w') : Fb B S w w' := ⟨h.os, h.tape, h.output, h.size, fun g h1 _ => h.block g h1⟩
theorem Fb.set {B : Nat} {S : Nat → Prop} {w : World} (a : Addr) (ha : S a.block) (v : Value) : Fb B S w (w.setCell a v) :=
  ⟨rfl, rfl, rfl, by simp, fun g h1 h2 => Below.heap_setCell _ _ _ _ (fun e => h2 (e ▸ ha))⟩
theorem Fb.cell {B : Nat} {S : Nat → Prop} {w w' : World} (h : Fb B S w w') {a : Addr} (ha : a.block < B) (hS : ¬ S a.block) : w'.cell? a = w.cell? a := World.cell?_of_block (h.block _ ha hS)
theorem Fb.frozen {B : Nat} {S : Nat → Prop} {w w' : World} (h : Fb B S w w') {a : Addr} (ha : a.block < B) (hS : ¬ S a.block) : w'.frozen? a = w.frozen? a := World.frozen?_of_block (h.block _ ha hS)
theorem own_grow_below {w w' : World} {B n g cap : Nat} {e : TypeId} {xs : List Value} {size : Nat} (h : w.ownsRow B e size (.slice (some ⟨g, 0, none⟩) n cap) n xs) (hg : w.grownBy w' (some g)) : Below B w w' ∨ w.heap.size < B := by
  by_cases hB : B ≤ w.heap.size
  · refine Or.inl ⟨hg.os, hg.tape, hg.output, hg.size, fun k hk => hg.block k (by omega) (fun e => ?_)⟩
    have := (h.lt g rfl).1
    injection e with e
    omega
  · exact Or.inr (by omega)
theorem Yba.comp26 : (Yba.prog.info? 26).map (fun i => i.comparable) = some true := by kernel_rfl
theorem Yba.size29 : (Yba.prog.info? 29).map (fun i => i.size) = some 1 := by kernel_rfl
theorem ptr_same (D d : Nat) (hD : D = d + 1) (a : Addr) (w : World) : (Op.equalIn D 26 (.pointer (some a)) (.pointer (some a))).run Yba.prog w = .ok true w := by
  subst hD
  cases hq : Yba.prog.info? 29 with
  | none => have := Yba.size29; simp [hq] at this
  | some j =>
    have hs : j.size = 1 := by have := Yba.size29; simpa [hq] using this
    simp [Op.equalIn, run_underlying Yba.underlying26, sizeOf, typeInfo, hq, hs, run_sameAddr_same]
theorem iface_same (D d : Nat) (hD : D = d + 2) (a : Addr) (w : World) : (Op.equalIn D 31 (.iface 26 (.pointer (some a))) (.iface 26 (.pointer (some a)))).run Yba.prog w = .ok true w := by
  subst hD
  have hp := ptr_same (d + 1) d rfl a w
  cases hq : Yba.prog.info? 26 with
  | none => have := Yba.comp26; simp [hq] at this
  | some j =>
    have hs : j.comparable = true := by have := Yba.comp26; simpa [hq] using this
    rw [show d + 2 = (d + 1) + 1 from rfl]
    simp [Op.equalIn, run_underlying Yba.underlying31, typeInfo, hq, hs, hp, run_sameAddr_same]
theorem eq31y (ob : Nat) (w : World) : (binOp .eql 31 (.iface 26 (.pointer (some ⟨ob, 0, none⟩))) (.iface 26 (.pointer (some ⟨ob, 0, none⟩)))).run Yba.prog w = .ok (.bool true) w := by
  have h := iface_same 10000 9998 (by decide) ⟨ob, 0, none⟩ w
  simp only [binOp]
  simp [Op.equal, Op.maxDepth, h]
theorem eq31n (ob : Nat) (w : World) : (binOp .eql 31 (.iface 26 (.pointer (some ⟨ob, 0, none⟩))) .nilIface).run Yba.prog w = .ok (.bool false) w := by kernel_rfl
end Go.Proofs.Ybulkcgfw
