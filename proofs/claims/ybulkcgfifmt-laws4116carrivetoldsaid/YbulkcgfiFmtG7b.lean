import Derived.Test.YbulkcgfiFmtG7
namespace Go.Proofs.YbulkcgfiFmt
open Go.RowKit Go.Extern.Stop Go.Stop Go.Extern
set_option linter.unusedVariables false
theorem wp_load_run {o : Oper} {a : Act} {w : World} {K : Act → World → Prop} {Q : Exit → Act → World → Prop} (ty : TypeId) (x : Operand) (ho : o.op = .load ty x) (ad : Addr) (hx : a.eval x = .pointer (some ad)) (v : Value) (hrun : (loadVar ty ad).run Ybaf.prog w = .ok v w)
    (h : K (a.put o.dst v) w) : o.wp Ybaf.prog a w K Q := by
  unfold Oper.wp execOp
  simp only [ho, hx, Instr.loadAt, Instr.sureAddr, Sem.run_bind, Sem.run_pure, Result.andThen_ok, hrun]
  exact h
theorem wpList_load_run {ops : Array Oper} {rest : List Oper} {o : Oper} {a : Act} {w : World} {Q : Exit → Act → World → Prop} (hgd : o.guard = none) (ty : TypeId) (x : Operand) (ho : o.op = .load ty x) (ad : Addr) (hx : a.eval x = .pointer (some ad)) (v : Value) (hrun : (loadVar ty ad).run Ybaf.prog w = .ok v w)
    (h : wpList Ybaf.prog ops Q rest (a.put o.dst v) w) : wpList Ybaf.prog ops Q (o :: rest) a w :=
  wpList_plain hgd fun _ hK => wp_load_run ty x ho ad hx v hrun (hK _ _ h)
theorem wp_store_run {o : Oper} {a : Act} {w w' : World} {K : Act → World → Prop} {Q : Exit → Act → World → Prop} (ty : TypeId) (x y : Operand) (ho : o.op = .store ty x y) (ad : Addr) (hx : a.eval x = .pointer (some ad)) (v : Value) (hy : a.eval y = v) (hrun : (storeVar ty ad v).run Ybaf.prog w = .ok () w')
    (h : K (a.put o.dst undef) w') : o.wp Ybaf.prog a w K Q := by
  unfold Oper.wp execOp
  simp only [ho, hx, hy, Instr.storeAt, Instr.sureAddr, Sem.run_bind, Sem.run_pure, Result.andThen_ok, hrun]
  exact h
theorem wpList_store_run {ops : Array Oper} {rest : List Oper} {o : Oper} {a : Act} {w w' : World} {Q : Exit → Act → World → Prop} (hgd : o.guard = none) (ty : TypeId) (x y : Operand) (ho : o.op = .store ty x y) (ad : Addr) (hx : a.eval x = .pointer (some ad)) (v : Value) (hy : a.eval y = v) (hrun : (storeVar ty ad v).run Ybaf.prog w = .ok () w')
    (h : wpList Ybaf.prog ops Q rest (a.put o.dst undef) w') : wpList Ybaf.prog ops Q (o :: rest) a w :=
  wpList_plain hgd fun _ hK => wp_store_run ty x y ho ad hx v hy hrun (hK _ _ h)
theorem results_cell_run {fn : Func} {p : Tmp} {ty : TypeId} (h : fn.results = #[.cell p ty]) (tmps : Array Value) (w : World) (ad : Addr) (v : Value) (hp : tmps.getD p undef = .pointer (some ad)) (hrun : (loadVar ty ad).run Ybaf.prog w = .ok v w) :
    (results fn tmps).run Ybaf.prog w = .ok v w := by
  have hp' : tmps[p]?.getD undef = .pointer (some ad) := by simpa using hp
  simp [results, h, hp', asAddr, hrun]
end Go.Proofs.YbulkcgfiFmt
