import Derived.Test.YbulkcgfiFmtG0
import Derived.WalkKit
import Derived.WalkSpells
import Derived.WalkLawsBesides
import Derived.Below
import Derived.Deep.RegionHeld3
import Derived.Deep.QuietTactic
namespace Go.Proofs.YbulkcgfiFmt
open Go.RowKit Go.Extern.Stop Go.Stop Go.Extern
set_option linter.unusedVariables false
structure Hid (p : Prop) : Prop where
  out : p
theorem hide {p : Prop} (h : p) : Hid p := ⟨h⟩
theorem wrap_in (x : Int) (h0 : -9223372036854775808 ≤ x) (h1 : x ≤ 9223372036854775807) : IntKind.i64.wrap x = x := by
  simp [IntKind.wrap, IntKind.signed, IntKind.bits]; omega
theorem bdrewN {B n : Nat} {a w : World} (h : Below B a w) : Below B a (w.drewN n) := ⟨h.os, h.tape, h.output, h.size, h.block⟩
set_option maxRecDepth 100000 in
set_option maxHeartbeats 400000 in
/-- messageReader.offset -/
theorem offset_any (b : Nat) (base off : Int) (w : World) (c1 : w.cell? ⟨b, 1, none⟩ = some (.int .i64 base)) (c2 : w.cell? ⟨b, 2, none⟩ = some (.int .i64 off)) (h0 : 0 ≤ base + off) (h1 : base + off ≤ 1000000000) :
    Calls Ybaf.prog 8 #[.pointer (some ⟨b, 0, none⟩)] w fun e w' => e = .returned (.int .i64 (base + off)) ∧ Below w.heap.size w w' := by
  have hw := wrap_in (base + off) (by omega) (by omega)
  go_enter Ybaf.func8, Ybaf.ntmps8
  go_wp2
  go_quiet (fail)
  go_wp2
  go_ret
  exact ⟨rfl, bdrewN (Below.refl _ _)⟩
set_option maxRecDepth 100000 in
set_option maxHeartbeats 400000 in
/-- messageReader.fail -/
theorem fail_any (b : Nat) (base off : Int) (s : ByteArray) (w : World) (c1 : w.cell? ⟨b, 1, none⟩ = some (.int .i64 base)) (c2 : w.cell? ⟨b, 2, none⟩ = some (.int .i64 off)) (h0 : 0 ≤ base + off) (h1 : base + off ≤ 1000000000) :
    Calls Ybaf.prog 11 #[.pointer (some ⟨b, 0, none⟩), .string s] w fun e w' => ∃ pb, e = .returned (.iface 46 (.pointer (some ⟨pb, 0, none⟩))) ∧ w'.cell? ⟨pb, 0, none⟩ = some (.int .i64 (base + off)) ∧ Below w.heap.size w w' := by
  go_enter Ybaf.func11, Ybaf.ntmps11
  go_wp2_with (go_at_call 8; refine (offset_any b base off _ c1 c2 h0 h1).mono ?_; rintro e w1 ⟨rfl, hb⟩)
  go_ret
  exact ⟨_, rfl, by simp, hb.alloc hb.size _⟩
set_option maxRecDepth 100000 in
set_option maxHeartbeats 400000 in
/-- messageReader.more, of a whole message -/
theorem more_yes (b : Nat) (a : Option Addr) (len cap : Nat) (off : Nat) (w : World) (c0 : w.cell? ⟨b, 0, none⟩ = some (.slice a len cap)) (c2 : w.cell? ⟨b, 2, none⟩ = some (.int .i64 off)) (h : off < len) :
    Calls Ybaf.prog 22 #[.pointer (some ⟨b, 0, none⟩)] w fun e w' => e = .returned (.tuple #[.bool true, .nilIface]) ∧ Below w.heap.size w w' := by
  have h' : (off : Int) < len := by omega
  go_enter Ybaf.func22, Ybaf.ntmps22
  go_wp2
  go_quiet (fail)
  go_wp2
  go_ret2
  exact ⟨rfl, bdrewN (Below.refl _ _)⟩
set_option maxRecDepth 100000 in
set_option maxHeartbeats 400000 in
theorem bring_nil (b : Nat) (w : World) (c3 : w.cell? ⟨b, 3, none⟩ = some (.pointer none)) :
    Calls Ybaf.prog 27 #[.pointer (some ⟨b, 0, none⟩)] w fun e w' => e = .returned (.tuple #[.bool false, .nilIface]) ∧ w' = w := by
  go_enter Ybaf.func27, Ybaf.ntmps27
  go_wp2
  go_ret2
  exact ⟨rfl, rfl⟩
set_option maxRecDepth 100000 in
set_option maxHeartbeats 400000 in
theorem more_no (b : Nat) (a : Option Addr) (len cap : Nat) (w : World) (c0 : w.cell? ⟨b, 0, none⟩ = some (.slice a len cap)) (c2 : w.cell? ⟨b, 2, none⟩ = some (.int .i64 len)) (c3 : w.cell? ⟨b, 3, none⟩ = some (.pointer none)) :
    Calls Ybaf.prog 22 #[.pointer (some ⟨b, 0, none⟩)] w fun e w' => e = .returned (.tuple #[.bool false, .nilIface]) ∧ Below w.heap.size w w' := by
  go_enter Ybaf.func22, Ybaf.ntmps22
  go_wp2
  go_quiet (fail)
  go_wp2_with (go_at_call 27; refine (bring_nil b _ (by simpa using c3)).mono ?_; rintro e w1 ⟨rfl, rfl⟩)
  go_ret2
  exact ⟨rfl, bdrewN (Below.refl _ _)⟩
set_option maxRecDepth 100000 in
set_option maxHeartbeats 400000 in
theorem room_any (b : Nat) (a : Option Addr) (len cap off : Nat) (w : World) (hl : len ≤ 1000000000) (ho : off ≤ len) (c0 : w.cell? ⟨b, 0, none⟩ = some (.slice a len cap)) (c2 : w.cell? ⟨b, 2, none⟩ = some (.int .i64 off)) (c3 : w.cell? ⟨b, 3, none⟩ = some (.pointer none)) :
    Calls Ybaf.prog 16 #[.pointer (some ⟨b, 0, none⟩)] w fun e w' => e = .returned (.int .i64 ((len - off : Nat) : Int)) ∧ Below w.heap.size w w' := by
  have hs : ((len - off : Nat) : Int) = (len : Int) - off := by omega
  rw [hs]
  clear hs
  have hw := wrap_in ((len : Int) - off) (by omega) (by omega)
  go_enter Ybaf.func16, Ybaf.ntmps16
  go_wp2
  go_quiet (fail)
  go_wp2
  go_ret
  exact ⟨rfl, bdrewN (Below.refl _ _)⟩
end Go.Proofs.YbulkcgfiFmt
