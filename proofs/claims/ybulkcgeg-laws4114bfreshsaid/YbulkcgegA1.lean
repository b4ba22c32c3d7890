import Derived.Test.YbulkcgegProg
import Derived.WalkKit
import Derived.WalkSpells
import Derived.Laws.BytesArg
namespace Go.Proofs.Ybulkcgeg
open Go.RowKit
def idNums (i : Nat) : List Int := [97 + (i : Int) % 26, 97 + (i : Int) / 26 % 26, 97 + (i : Int) / 676 % 26]
def idOf (i : Nat) : ByteArray := strOfNums (idNums i)
theorem conv_id (w : World) (c0 c1 c2 : Int) : (convert 51 9 (Value.slice (some { block := w.heap.size, off := 0 }) 3 3)).run Yba.prog (w.alloc (.cells #[.int .u8 c0, .int .u8 c1, .int .u8 c2] 5)) = .ok (.string (strOfNums [c0, c1, c2])) (w.alloc (.cells #[.int .u8 c0, .int .u8 c1, .int .u8 c2] 5)) := by
  refine run_convert_bytes_arg (P := Yba.prog) _ 51 5 Yba.underlying51 Yba.underlying5 w.heap.size 0 3 3 [c0, c1, c2] rfl ?_ 9 Yba.underlying9
  intro i hi
  match i, hi with
  | 0, _ => simp
  | 1, _ => simp
  | 2, _ => simp
set_option maxRecDepth 100000 in
set_option maxHeartbeats 400000 in
theorem id_any (i : Nat) (w : World) (h : i < 4096) :
    Calls Yba.prog 6 #[.int .i64 i] w fun e w' => e = .returned (.string (idOf i)) ∧ w' = w.alloc (.cells #[.int .u8 (97 + (i : Int) % 26), .int .u8 (97 + (i : Int) / 26 % 26), .int .u8 (97 + (i : Int) / 676 % 26)] 5) := by
  have hc := conv_id
  go_enter Yba.func6, Yba.ntmps6
  go_wp2
  go_ret
  exact ⟨rfl, rfl⟩
end Go.Proofs.Ybulkcgeg
