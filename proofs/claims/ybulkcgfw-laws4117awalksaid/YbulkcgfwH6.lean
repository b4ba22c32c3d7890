import Derived.Test.YbulkcgfwH5
import Derived.Laws.IdiomStrings
import Derived.Lib.BufferRead
namespace Go.Proofs.Ybulkcgfw
open Go.RowKit
set_option linter.unusedVariables false
set_option linter.unusedSimpArgs false
theorem Yba.comp45 : (Yba.prog.info? 45).map (fun i => i.comparable) = some true := by kernel_rfl
theorem Yba.size47 : (Yba.prog.info? 47).map (fun i => i.size) = some 1 := by kernel_rfl
theorem ptr_same45 (D d : Nat) (hD : D = d + 1) (a : Addr) (w : World) : (Op.equalIn D 45 (.pointer (some a)) (.pointer (some a))).run Yba.prog w = .ok true w := by
  subst hD
  cases hq : Yba.prog.info? 47 with
  | none => have := Yba.size47; simp [hq] at this
  | some j =>
    have hs : j.size = 1 := by have := Yba.size47; simpa [hq] using this
    simp [Op.equalIn, run_underlying Yba.underlying45, sizeOf, typeInfo, hq, hs, run_sameAddr_same]
theorem iface_same24 (D d : Nat) (hD : D = d + 2) (a : Addr) (w : World) : (Op.equalIn D 24 (.iface 45 (.pointer (some a))) (.iface 45 (.pointer (some a)))).run Yba.prog w = .ok true w := by
  subst hD
  have hp := ptr_same45 (d + 1) d rfl a w
  cases hq : Yba.prog.info? 45 with
  | none => have := Yba.comp45; simp [hq] at this
  | some j =>
    have hs : j.comparable = true := by have := Yba.comp45; simpa [hq] using this
    rw [show d + 2 = (d + 1) + 1 from rfl]
    simp [Op.equalIn, run_underlying Yba.underlying24, typeInfo, hq, hs, hp, run_sameAddr_same]
theorem eq24y (x : Nat) (w : World) : (binOp .eql 24 (.iface 45 (.pointer (some ⟨x, 0, none⟩))) (.iface 45 (.pointer (some ⟨x, 0, none⟩)))).run Yba.prog w = .ok (.bool true) w := by
  have h := iface_same24 10000 9998 (by decide) ⟨x, 0, none⟩ w
  simp only [binOp]
  simp [Op.equal, Op.maxDepth, h]
theorem neq24y (x : Nat) (w : World) : (binOp .neq 24 (.iface 45 (.pointer (some ⟨x, 0, none⟩))) (.iface 45 (.pointer (some ⟨x, 0, none⟩)))).run Yba.prog w = .ok (.bool false) w := by
  have h := iface_same24 10000 9998 (by decide) ⟨x, 0, none⟩ w
  simp only [binOp]
  simp [Op.equal, Op.maxDepth, h]
theorem eq33 (w : World) : (binOp .eql 33 (.slice none 0 0) (.slice none 0 0)).run Yba.prog w = .ok (.bool true) w := by kernel_rfl
theorem neq24n (w : World) : (binOp .neq 24 .nilIface .nilIface).run Yba.prog w = .ok (.bool false) w := by kernel_rfl
theorem conv_out {B : Nat} {ov : Value} {s : ByteArray} {w : World} (h : w.ownsRow B 5 1 ov s.size (textVals s)) (m : Nat) : (convert 27 9 ov).run Yba.prog (w.drewN m) = .ok (.string s) (w.drewN m) := by
  obtain ⟨_, (⟨rfl, h0⟩ | ⟨g, cap, cur, rfl, hb, hr⟩)⟩ := id h
  · have : s = ⟨#[]⟩ := by
      obtain ⟨a⟩ := s
      have : a.size = 0 := h0
      rw [Array.eq_empty_of_size_eq_zero this]
    rw [this]
    exact Lib.run_convert_nil_bytes _ 27 9 5 0 Yba.underlying27 Yba.underlying5 Yba.underlying9
  · have hc := run_convert_bytes_back (P := Yba.prog) (w.drewN m) 27 9 5 ⟨g, 0, none⟩ cap s.data.toList Yba.underlying27 Yba.underlying5 Yba.underlying9 (fun j hj => by
      rw [World.cell?_drewN]
      refine h.cells rfl j _ ?_
      unfold textVals
      rw [List.getElem?_map, List.getElem?_eq_getElem hj]
      rfl)
    simpa using hc
theorem losses_len (str : Nat → ByteArray) : ∀ n, (losses str n).length = 3 * n
  | 0 => rfl
  | n + 1 => by simp [losses, losses_len str n]; omega
theorem losses_get (str : Nat → ByteArray) (i : Nat) : ∀ n, i < n → (losses str n)[i * 3]? = some (.string (str i)) ∧ (losses str n)[i * 3 + 1]? = some (.slice none 0 0) ∧ (losses str n)[i * 3 + 2]? = some (.int .i64 ((i : Int) + 1))
  | 0, h => by omega
  | n + 1, h => by
    have hl := losses_len str n
    by_cases hi : i < n
    · have ih := losses_get str i n hi
      unfold losses
      rw [List.getElem?_append_left (by omega), List.getElem?_append_left (by omega), List.getElem?_append_left (by omega)]
      exact ih
    · obtain rfl : i = n := by omega
      unfold losses
      rw [List.getElem?_append_right (by omega), List.getElem?_append_right (by omega), List.getElem?_append_right (by omega), show i * 3 - (losses str i).length = 0 by omega, show i * 3 + 1 - (losses str i).length = 1 by omega, show i * 3 + 2 - (losses str i).length = 2 by omega]
      exact ⟨rfl, rfl, rfl⟩
theorem loss_at {w : World} {B cl lc i : Nat} {la : Option Addr} {str : Nat → ByteArray} (h : w.ownsRow B 40 3 (.slice la cl lc) cl (losses str cl)) (hi : i < cl) : ∃ g, la = some ⟨g, 0, none⟩ ∧ w.cell? ⟨g, i * 3, none⟩ = some (.string (str i)) ∧ w.cell? ⟨g, i * 3 + 1, none⟩ = some (.slice none 0 0) ∧ w.cell? ⟨g, i * 3 + 2, none⟩ = some (.int .i64 ((i : Int) + 1)) := by
  obtain ⟨_, (⟨h1, h0⟩ | ⟨g, cap, cur, h1, _⟩)⟩ := id h
  · omega
  · injection h1 with h1 h2 h3
    subst h1
    obtain ⟨p0, p1, p2⟩ := losses_get str i cl hi
    exact ⟨g, rfl, by rw [h.cellAt _ (by omega)]; exact p0, by rw [h.cellAt _ (by omega)]; exact p1, by rw [h.cellAt _ (by omega)]; exact p2⟩
/-- What the law has laid when it calls WriteAllOrNothing. -/
structure Lay (w W : World) (s : ByteArray) (bf bs : Bool) (cv : Value) : Prop where
  cs : Cs W (w.heap.size + 10) (w.heap.size + 11) (w.heap.size + 12) (w.heap.size + 9) (w.heap.size + 2) w.heap.size (w.heap.size + 5) (w.heap.size + 3) (w.heap.size + 1) (w.heap.size + 7) (w.heap.size + 8) s bf bs (w.heap.size + 4) (w.heap.size + 6) cv
  c : W.cell? ⟨w.heap.size + 10, 0, none⟩ = some (.int .i64 0)
  n : W.cell? ⟨w.heap.size + 11, 0, none⟩ = some (.slice none 0 0)
  sc : W.cell? ⟨w.heap.size + 12, 0, none⟩ = some (.slice none 0 0)
  o : W.cell? ⟨w.heap.size + 8, 0, none⟩ = some (.slice none 0 0)
  fz : W.frozen? ⟨w.heap.size + 8, 0, none⟩ = false
  size : W.heap.size = w.heap.size + 13
  bel : Below w.heap.size w W
def layW (w : World) (s : ByteArray) (bf bs : Bool) (cv : Value) : World :=
  ((((((((((((w.alloc (Obj.cells #[Value.bool bf] 4)).alloc (Obj.cells #[Value.bool bs] 4)).alloc (Obj.cells #[Value.string s] 9)).alloc (Obj.cells #[cv] 22)).alloc
    (Obj.cells #[Value.string { data := #[102, 105, 114, 115, 116] }] 47)).alloc (Obj.cells #[Value.iface 45 (Value.pointer (some ⟨w.heap.size + 4, 0, none⟩))] 24)).alloc
    (Obj.cells #[Value.string { data := #[115, 101, 99, 111, 110, 100] }] 47)).alloc (Obj.cells #[Value.iface 45 (Value.pointer (some ⟨w.heap.size + 6, 0, none⟩))] 24)).alloc
    (Obj.cells #[Value.slice none 0 0] 29)).alloc (Obj.cells #[Value.iface 26 (Value.pointer (some ⟨w.heap.size + 8, 0, none⟩))] 31)).alloc
    (Obj.cells #[Value.int IntKind.i64 0] 3)).alloc (Obj.cells #[Value.slice none 0 0] 32)).alloc (Obj.cells #[Value.slice none 0 0] 32)
theorem lay_heap (w : World) (s : ByteArray) (bf bs : Bool) (cv : Value) (k : Nat) : (layW w s bf bs cv).heap[w.heap.size + k]? = ([Obj.cells #[Value.bool bf] 4, Obj.cells #[Value.bool bs] 4, Obj.cells #[Value.string s] 9, Obj.cells #[cv] 22, Obj.cells #[Value.string { data := #[102, 105, 114, 115, 116] }] 47, Obj.cells #[Value.iface 45 (Value.pointer (some ⟨w.heap.size + 4, 0, none⟩))] 24, Obj.cells #[Value.string { data := #[115, 101, 99, 111, 110, 100] }] 47, Obj.cells #[Value.iface 45 (Value.pointer (some ⟨w.heap.size + 6, 0, none⟩))] 24, Obj.cells #[Value.slice none 0 0] 29, Obj.cells #[Value.iface 26 (Value.pointer (some ⟨w.heap.size + 8, 0, none⟩))] 31, Obj.cells #[Value.int IntKind.i64 0] 3, Obj.cells #[Value.slice none 0 0] 32, Obj.cells #[Value.slice none 0 0] 32] : List Obj)[k]? := by
  have h : (layW w s bf bs cv).heap = w.heap ++ ([Obj.cells #[Value.bool bf] 4, Obj.cells #[Value.bool bs] 4, Obj.cells #[Value.string s] 9, Obj.cells #[cv] 22, Obj.cells #[Value.string { data := #[102, 105, 114, 115, 116] }] 47, Obj.cells #[Value.iface 45 (Value.pointer (some ⟨w.heap.size + 4, 0, none⟩))] 24, Obj.cells #[Value.string { data := #[115, 101, 99, 111, 110, 100] }] 47, Obj.cells #[Value.iface 45 (Value.pointer (some ⟨w.heap.size + 6, 0, none⟩))] 24, Obj.cells #[Value.slice none 0 0] 29, Obj.cells #[Value.iface 26 (Value.pointer (some ⟨w.heap.size + 8, 0, none⟩))] 31, Obj.cells #[Value.int IntKind.i64 0] 3, Obj.cells #[Value.slice none 0 0] 32, Obj.cells #[Value.slice none 0 0] 32] : List Obj) := by
    apply Array.ext'
    simp only [layW, World.alloc]
    simp
  rw [h, ← Array.getElem?_toList, Array.toList_appendList, List.getElem?_append_right (by simp)]
  simp
theorem lay_size (w : World) (s : ByteArray) (bf bs : Bool) (cv : Value) : (layW w s bf bs cv).heap.size = w.heap.size + 13 := by
  simp only [layW, World.alloc]
  simp
theorem lay_cell (w : World) (s : ByteArray) (bf bs : Bool) (cv : Value) (k : Nat) (v : Value) (T : TypeId) (h : (layW w s bf bs cv).heap[w.heap.size + k]? = some (.cells #[v] T)) : (layW w s bf bs cv).cell? ⟨w.heap.size + k, 0, none⟩ = some v ∧ (layW w s bf bs cv).frozen? ⟨w.heap.size + k, 0, none⟩ = false := by
  constructor
  · simp [World.cell?, h]
  · simp [World.frozen?, h]
theorem lay_ok (w : World) (s : ByteArray) (bf bs : Bool) (cv : Value) : Lay w (layW w s bf bs cv) s bf bs cv := by
  have c := fun k v T h => lay_cell w s bf bs cv k v T (by rw [lay_heap]; exact h)
  refine ⟨⟨(c 10 _ _ rfl).2, (c 11 _ _ rfl).2, (c 12 _ _ rfl).2, (c 9 _ _ rfl).1, (c 2 _ _ rfl).1, (c 0 _ _ rfl).1, (c 5 _ _ rfl).1, (c 3 _ _ rfl).1, (c 1 _ _ rfl).1, (c 7 _ _ rfl).1⟩, (c 10 _ _ rfl).1, (c 11 _ _ rfl).1, (c 12 _ _ rfl).1, (c 8 _ _ rfl).1, (c 8 _ _ rfl).2, lay_size w s bf bs cv, ?_⟩
  have a : ∀ {u : World} (o : Obj), Below w.heap.size w u → Below w.heap.size w (u.alloc o) := fun o h => h.alloc h.size o
  exact a _ (a _ (a _ (a _ (a _ (a _ (a _ (a _ (a _ (a _ (a _ (a _ (a _ (Below.refl _ _)))))))))))))
theorem ne_add (b k m : Nat) (h : k ≠ m) : b + k ≠ b + m := fun e => h (Nat.add_left_cancel e)
/-- The places. -/
structure Pl (b ff fs tx ch x1 e1 x2 e2 ob ow cal nl sl : Nat) : Prop where
  d1 : cal ≠ nl ∧ cal ≠ sl ∧ nl ≠ sl ∧ ow ≠ cal ∧ ow ≠ nl ∧ ow ≠ sl ∧ ff ≠ cal ∧ ff ≠ nl ∧ ff ≠ sl ∧ e1 ≠ cal ∧ e1 ≠ nl ∧ e1 ≠ sl
  dS : ∀ g, g = ow ∨ g = tx ∨ g = ch ∨ g = fs ∨ g = e2 ∨ g = ff ∨ g = e1 → ¬ S2 cal nl sl ob g
  dO : ob ≠ cal ∧ ob ≠ nl ∧ ob ≠ sl
  dB : ∀ g, g < b → ¬ S2 cal nl sl ob g
theorem pl (b : Nat) : Pl b b (b + 1) (b + 2) (b + 3) (b + 4) (b + 5) (b + 6) (b + 7) (b + 8) (b + 9) (b + 10) (b + 11) (b + 12) := by
  refine ⟨⟨by omega, by omega, by omega, by omega, by omega, by omega, by omega, by omega, by omega, by omega, by omega, by omega⟩, ?_, ⟨by omega, by omega, by omega⟩, ?_⟩
  · intro g hg
    rintro (k | k | k | k) <;> rcases hg with h | h | h | h | h | h | h <;> omega
  · intro g hg
    rintro (k | k | k | k) <;> omega
set_option maxRecDepth 100000 in
set_option maxHeartbeats 2000000 in
theorem walk_any (bf bs : Bool) (s : ByteArray) (ca : Option Addr) (cl cc : Nat) (str : Nat → ByteArray) (w : World) (hstr : ∀ i, i < cl → ∃ b o, ca = some ⟨b, o, none⟩ ∧ w.cell? ⟨b, o + i, none⟩ = some (.string (str i))) (hcl : cl ≤ 1024) (hss : s.size ≤ 65536) :
    Calls Yba.prog 3 #[.bool bf, .bool bs, .string s, .slice ca cl cc] w fun e w' => e = .returned (.bool true) ∧ Below w.heap.size w w' := by
  obtain ⟨W, hW⟩ : ∃ W, W = layW w s bf bs (.slice ca cl cc) := ⟨_, rfl⟩
  have hP := pl w.heap.size
  have hL := lay_ok w s bf bs (.slice ca cl cc)
  rw [← hW] at hL
  unfold layW at hW
  obtain ⟨ff, hff⟩ : ∃ x, x = w.heap.size := ⟨_, rfl⟩
  obtain ⟨fs, hfs⟩ : ∃ x, x = w.heap.size + 1 := ⟨_, rfl⟩
  obtain ⟨tx, htx⟩ : ∃ x, x = w.heap.size + 2 := ⟨_, rfl⟩
  obtain ⟨ch, hch⟩ : ∃ x, x = w.heap.size + 3 := ⟨_, rfl⟩
  obtain ⟨x1, hx1⟩ : ∃ x, x = w.heap.size + 4 := ⟨_, rfl⟩
  obtain ⟨e1, he1⟩ : ∃ x, x = w.heap.size + 5 := ⟨_, rfl⟩
  obtain ⟨x2, hx2⟩ : ∃ x, x = w.heap.size + 6 := ⟨_, rfl⟩
  obtain ⟨e2, he2⟩ : ∃ x, x = w.heap.size + 7 := ⟨_, rfl⟩
  obtain ⟨ob, hob⟩ : ∃ x, x = w.heap.size + 8 := ⟨_, rfl⟩
  obtain ⟨ow, how⟩ : ∃ x, x = w.heap.size + 9 := ⟨_, rfl⟩
  obtain ⟨cal, hcal⟩ : ∃ x, x = w.heap.size + 10 := ⟨_, rfl⟩
  obtain ⟨nl, hnl⟩ : ∃ x, x = w.heap.size + 11 := ⟨_, rfl⟩
  obtain ⟨sl, hsl⟩ : ∃ x, x = w.heap.size + 12 := ⟨_, rfl⟩
  obtain ⟨hcs, hc, hn, hs, ho, hof, hsz, hbel⟩ := hL
  rw [← hcal, ← hnl, ← hsl, ← how, ← htx, ← he1, ← hch, ← hfs, ← he2, ← hob, ← hx1, ← hx2, ← hff] at hcs
  rw [← hcal, ← hnl, ← hsl, ← how, ← htx, ← he1, ← hch, ← hfs, ← he2, ← hob, ← hx1, ← hx2] at hP
  rw [← hcal] at hc
  rw [← hnl] at hn
  rw [← hsl] at hs
  rw [← hob] at ho hof
  have hP' : Pl ff ff fs tx ch x1 e1 x2 e2 ob ow cal nl sl := by rw [hff]; exact hP
  have HB := hide (both cal nl sl ow tx ff e1 ch fs e2 ob x1 x2 cl cc ca s bf bs str W hcs hP'.d1 hP'.dS hP'.dO hcl hss (fun i hi => by
    obtain ⟨b, o, q1, q2⟩ := hstr i hi
    have hb : b < w.heap.size := World.block_lt_of_cell? _ _ q2
    refine ⟨b, o, q1, by omega, hP.dB b hb, ?_⟩
    rw [hbel.cell (by exact hb)]
    exact q2) hc hn hs ho hof)
  have HF : Hid (∀ w', Fb W.heap.size (S2 cal nl sl ob) W w' → Below w.heap.size w w') := ⟨fun w' h => hbel.trans ⟨h.os, h.tape, h.output, h.size, fun g hg => h.block g (by omega) (hP.dB g hg)⟩⟩
  have HK : ∀ w', Fb W.heap.size (S2 cal nl sl ob) W w' → ∀ g, g = ow ∨ g = tx ∨ g = ch ∨ g = fs ∨ g = e2 ∨ g = ff ∨ g = e1 → w'.cell? ⟨g, 0, none⟩ = W.cell? ⟨g, 0, none⟩ := fun w' h g hg => h.cell (by show g < W.heap.size; omega) (hP'.dS g hg)
  have HE : Hid (∀ w', Fb W.heap.size (S2 cal nl sl ob) W w' → w'.cell? ⟨ff, 0, none⟩ = some (.bool bf) ∧ w'.cell? ⟨fs, 0, none⟩ = some (.bool bs) ∧ w'.cell? ⟨tx, 0, none⟩ = some (.string s) ∧ w'.cell? ⟨ch, 0, none⟩ = some (.slice ca cl cc) ∧ w'.cell? ⟨e1, 0, none⟩ = some (.iface 45 (.pointer (some ⟨x1, 0, none⟩))) ∧ w'.cell? ⟨e2, 0, none⟩ = some (.iface 45 (.pointer (some ⟨x2, 0, none⟩))) ∧ ∀ i, i < cl → ∃ b o, ca = some ⟨b, o, none⟩ ∧ w'.cell? ⟨b, o + i, none⟩ = some (.string (str i))) :=
    ⟨fun w' h => ⟨by rw [HK w' h ff (by simp)]; exact hcs.ffc, by rw [HK w' h fs (by simp)]; exact hcs.fsc, by rw [HK w' h tx (by simp)]; exact hcs.txc, by rw [HK w' h ch (by simp)]; exact hcs.chc, by rw [HK w' h e1 (by simp)]; exact hcs.e1c, by rw [HK w' h e2 (by simp)]; exact hcs.e2c, fun i hi => by
      obtain ⟨b, o, q1, q2⟩ := hstr i hi
      have hb : b < w.heap.size := World.block_lt_of_cell? _ _ q2
      refine ⟨b, o, q1, ?_⟩
      rw [h.cell (by show b < W.heap.size; omega) (hP.dB b hb), hbel.cell (by exact hb)]
      exact q2⟩⟩
  have howc := hcs.owc
  have HEQ := hide (And.intro hW (And.intro hff (And.intro hfs (And.intro htx (And.intro hch (And.intro hx1 (And.intro he1 (And.intro hx2 (And.intro he2 (And.intro hob (And.intro how (And.intro hcal (And.intro hnl hsl)))))))))))))
  have HOW := hide howc
  clear hW hff hfs htx hch hx1 he1 hx2 he2 hob how hcal hnl hsl hcs hc hn hs ho hof hsz hbel hstr howc HK hP hP'
  have i1 : ¬ (1024 : Int) < cl := by omega
  have i2 : ¬ (65536 : Int) < s.size := by omega
  have N1 := new_any ⟨#[102, 105, 114, 115, 116]⟩
  have N2 := new_any ⟨#[115, 101, 99, 111, 110, 100]⟩
  go_enter Yba.func3, Yba.ntmps3
  go_upto_region 11 with (first
    | (go_at_call 4; refine (N1 _).mono ?_; rintro e w1 ⟨rfl, rfl⟩)
    | (go_at_call 4; refine (N2 _).mono ?_; rintro e w1 ⟨rfl, rfl⟩))
  clear N1 N2 i1 i2
  simp only [Nat.add_assoc, Nat.reduceAdd]
  obtain ⟨hW, hff, hfs, htx, hch, hx1, he1, hx2, he2, hob, how, hcal, hnl, hsl⟩ := HEQ.out
  rw [← hW, ← hcal, ← hnl, ← hsl, ← how, ← htx, ← he1, ← hch, ← hfs, ← he2, ← hob, ← hx1, ← hx2, ← hff]
  clear hW hff hfs htx hch hx1 he1 hx2 he2 hob how hcal hnl hsl HEQ
  have howc := HOW.out
  go_wp2_with fail
  refine HB.out.mono ?_
  clear HB howc HOW
  rintro e w' hb
  rcases hb with ⟨rfl, rfl, hfb, hc, ho, g1, c1, hn, hno⟩ | ⟨rfl, lv, ov, g1, c1, g3, c3, rfl, hlv, hfb, hc, hn, hno, hs, hso, ho, hoo⟩
  · have HBL := hide (HF.out _ hfb)
    obtain ⟨kff, kfs, ktx, kch, ke1, ke2, kst⟩ := HE.out _ hfb
    have k0 : w'.cell? ⟨g1, 0, none⟩ = some (.bool true) := hno.cellAt 0 (by omega)
    have q24 := eq24y x1
    have q33 := eq33
    clear HF HE hfb kfs ktx kch ke2 kst hno
    go_wp2
    go_ret
    exact ⟨rfl, HBL.out⟩
  · have HBL := hide (HF.out _ hfb)
    obtain ⟨kff, kfs, ktx, kch, ke1, ke2, kst⟩ := HE.out _ hfb
    have k0 : w'.cell? ⟨g1, 0, none⟩ = some (.bool true) := hno.cellAt 0 (by omega)
    have k1 : w'.cell? ⟨g1, 1, none⟩ = some (.bool false) := hno.cellAt 1 (by omega)
    have k3 : w'.cell? ⟨g3, 1, none⟩ = some (.bool true) := hso.cellAt 1 (by omega)
    have q24 := neq24y x2
    have q24n := neq24n
    have hconv := conv_out hoo
    have HST := hide kst
    have HLV := hide hlv
    clear HF HE hfb kst hno hso hoo hlv
    have hl1 : ∃ la lc, lv = .slice la cl lc := by
      obtain ⟨_, (⟨h, h0⟩ | ⟨g, cap, cur, h, _⟩)⟩ := HLV.out
      · exact ⟨none, 0, by rw [h, h0]⟩
      · exact ⟨_, _, h⟩
    obtain ⟨la, lc, rfl⟩ := hl1
    generalize hev : (if bs = true then Value.iface 45 (Value.pointer (some ⟨x2, 0, none⟩)) else Value.nilIface) = ev
    have HEV := hide hev
    clear hev
    go_upto_region 16 with fail
    go_quiet (fail)
    have hc2 : ∀ m : Nat, True := fun _ => trivial
    have HEV2 : Hid ((bs = true ∧ ev = Value.iface 45 (Value.pointer (some ⟨x2, 0, none⟩))) ∨ (bs = false ∧ ev = Value.nilIface)) := ⟨by
      have := HEV.out
      cases bs
      · exact Or.inr ⟨rfl, by simpa using this.symm⟩
      · exact Or.inl ⟨rfl, by simpa using this.symm⟩⟩
    clear hconv hc2 HEV k0 k1 k3 hc hn hs ho
    rcases HEV2.out with ⟨rfl, rfl⟩ | ⟨rfl, rfl⟩
    all_goals
      clear HEV2
      go_wp2_with fail
      go_loopw [19] (fun iv wr => ∃ i m : Nat, i ≤ cl ∧ iv = .int .i64 i ∧ wr = w'.drewN m) (fun iv _ => (cl - intOf iv).toNat)
      case atStart => exact ⟨0, nq, by omega, rfl, rfl⟩
      case round =>
        obtain ⟨i, m, hicl, rfl, rfl⟩ := hrel
        by_cases hlt : i < cl
        · obtain ⟨cb, co, hca, hst⟩ := HST.out i hlt
          subst hca
          obtain ⟨lg, hla, hl0, hl1, hl2⟩ := loss_at HLV.out hlt
          subst hla
          have i1 : (i : Int) < cl := by omega
          have i2 := wrap_in ((i : Int) + 1) (by omega) (by omega)
          go_wp2_with fail
          go_quiet (fail)
          go_wp2
          go_roundw
          case rel => exact ⟨i + 1, _, by omega, by go_num, rfl⟩
          case measure => simp [intOf]; omega
        · obtain rfl : i = cl := by omega
          have i1 : ¬ (i : Int) < i := by omega
          go_wp2
          go_ret
          have h := HBL.out
          exact ⟨rfl, h.os, h.tape, h.output, h.size, h.block⟩
end Go.Proofs.Ybulkcgfw
