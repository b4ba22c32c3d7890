import Derived.Test.YbulkcgfiFmtG13
namespace Go.Proofs.YbulkcgfiFmt
open Go.RowKit Go.Extern.Stop Go.Stop Go.Extern
set_option linter.unusedVariables false
set_option linter.unusedSimpArgs false
@[go_sem] theorem Ybaf.as46 (v : Value) (w : World) : (Instr.typeAssert (.iface 46 v) 43 46 true).run Ybaf.prog w = .ok (.tuple #[v, .bool true]) w := by kernel_rfl
@[go_sem] theorem Ybaf.as0 (w : World) : (Instr.typeAssert .nilIface 43 46 true).run Ybaf.prog w = .ok (.tuple #[.pointer none, .bool false]) w := by kernel_rfl
/-- The reader of a whole message: its k bytes lie in block mb. -/
structure CSt (b mb k cap : Nat) (E : Nat → Nat) (w : World) (o : Nat) : Prop where
  c0 : w.cell? ⟨b, 0, none⟩ = some (.slice (some ⟨mb, 0, none⟩) k cap)
  c1 : w.cell? ⟨b, 1, none⟩ = some (.int .i64 0)
  c2 : w.cell? ⟨b, 2, none⟩ = some (.int .i64 ((o : Nat) : Int))
  c3 : w.cell? ⟨b, 3, none⟩ = some (.pointer none)
  f2 : w.frozen? ⟨b, 2, none⟩ = false
  lt : b < w.heap.size
  mlt : mb < w.heap.size
  le : o ≤ k
  cap : k ≤ cap
  byte : ∀ i, i < k → w.cell? ⟨mb, i, none⟩ = some (.int .u8 ((E i : Nat) : Int))
theorem CSt.below {b mb k cap o : Nat} {E : Nat → Nat} {w w' : World} (h : CSt b mb k cap E w o) (hb : Below w.heap.size w w') : CSt b mb k cap E w' o :=
  ⟨by rw [hb.cell (by exact h.lt)]; exact h.c0, by rw [hb.cell (by exact h.lt)]; exact h.c1, by rw [hb.cell (by exact h.lt)]; exact h.c2, by rw [hb.cell (by exact h.lt)]; exact h.c3, by rw [hb.frozen (by exact h.lt)]; exact h.f2, Nat.lt_of_lt_of_le h.lt hb.size, Nat.lt_of_lt_of_le h.mlt hb.size, h.le, h.cap, fun i hi => by rw [hb.cell (by exact h.mlt)]; exact h.byte i hi⟩
theorem cut_rdr {b mb k cap : Nat} {E : Nat → Nat} (hk : k ≤ 100000) (hne : b ≠ mb) : Rdr True (fun x => x = mb) b k E (CSt b mb k cap E) (CSt b mb k cap E) where
  big := hk
  lt := fun w o h => h.lt
  ltw := fun w o h => h.lt
  has := fun w o h hok => (more_yes b (some ⟨mb, 0, none⟩) k cap o w h.c0 h.c2 hok).mono (by
    rintro e w' ⟨rfl, hb⟩
    have h' := h.below hb
    exact ⟨rfl, h', Fk.of_below hb h.lt, mb, 0, k, cap, o, 0, ⟨h'.c0, h'.c1, h'.c2, h'.f2, by omega, hok, by omega, h'.cap, fun i hi => by rw [Nat.zero_add]; exact h'.byte i hi⟩⟩)
  ends := fun _ w h => (more_no b (some ⟨mb, 0, none⟩) k cap w h.c0 h.c2 h.c3).mono (by
    rintro e w' ⟨rfl, hb⟩
    exact ⟨rfl, h.below hb, Fk.of_below hb h.lt⟩)
  adv := fun w o a len cap' off r h e0 e2 hr _ => by
    rw [h.c0] at e0
    injection e0 with e0
    injection e0 with _ e0 _
    subst e0
    rw [h.c2] at e2
    injection e2 with e2
    injection e2 with _ e2
    have e2 : o = off := by omega
    subst e2
    have ot : ∀ j, j ≠ 2 → (w.setCell ⟨b, 2, none⟩ (.int .i64 ((o + r : Nat) : Int))).cell? ⟨b, j, none⟩ = w.cell? ⟨b, j, none⟩ := fun j hj => World.cell?_setCell_other _ _ _ _ (by intro e; injection e with _ e2 _; exact hj e2.symm)
    exact ⟨by rw [ot 0 (by omega)]; exact h.c0, by rw [ot 1 (by omega)]; exact h.c1, World.cell?_setCell_same _ _ _ h.c2, by rw [ot 3 (by omega)]; exact h.c3, by rw [World.frozen?_setCell]; exact h.f2, by simpa using h.lt, by simpa using h.mlt, hr, h.cap, fun i hi => by rw [World.cell?_setCell_other _ _ _ _ (by intro e; injection e with e1 _ _; exact hne e1)]; exact h.byte i hi⟩
  off := fun w o h => ⟨0, o, h.c1, h.c2, by omega, h.le⟩
  below := fun w w' o h hb => h.below hb
  beloww := fun w w' o h hb => h.below hb
  other := fun w o g j v h hg hgj => by
    have ot : ∀ i, i < 4 → (w.setCell ⟨g, j, none⟩ v).cell? ⟨b, i, none⟩ = w.cell? ⟨b, i, none⟩ := fun i hi => World.cell?_setCell_other _ _ _ _ (by intro e; injection e with e1 e2 _; rcases hgj with hh | hh; exact hh e1; omega)
    exact ⟨by rw [ot 0 (by omega)]; exact h.c0, by rw [ot 1 (by omega)]; exact h.c1, by rw [ot 2 (by omega)]; exact h.c2, by rw [ot 3 (by omega)]; exact h.c3, by rw [World.frozen?_setCell]; exact h.f2, by simpa using h.lt, by simpa using h.mlt, h.le, h.cap, fun i hi => by rw [World.cell?_setCell_other _ _ _ _ (by intro e; injection e with e1 _ _; exact hg e1)]; exact h.byte i hi⟩
  otherw := fun w o g j v h hg hgj => by
    have ot : ∀ i, i < 4 → (w.setCell ⟨g, j, none⟩ v).cell? ⟨b, i, none⟩ = w.cell? ⟨b, i, none⟩ := fun i hi => World.cell?_setCell_other _ _ _ _ (by intro e; injection e with e1 e2 _; rcases hgj with hh | hh; exact hh e1; omega)
    exact ⟨by rw [ot 0 (by omega)]; exact h.c0, by rw [ot 1 (by omega)]; exact h.c1, by rw [ot 2 (by omega)]; exact h.c2, by rw [ot 3 (by omega)]; exact h.c3, by rw [World.frozen?_setCell]; exact h.f2, by simpa using h.lt, by simpa using h.mlt, h.le, h.cap, fun i hi => by rw [World.cell?_setCell_other _ _ _ _ (by intro e; injection e with e1 _ _; exact hg e1)]; exact h.byte i hi⟩
theorem At_of {L A B C : List Nat} (k : Nat) (l : Nat → Nat) (h : L = A ++ (B ++ C)) (hl : ∀ i, i < B.length → B[i]? = some (l i)) : At (fun i => L.getD i 0) k A.length B.length l := fun i hi _ => by
  show L.getD (A.length + i) 0 = l i
  rw [h, List.getD_eq_getElem?_getD, List.getElem?_append_right (by omega), Nat.add_sub_cancel_left, List.getElem?_append_left hi, hl i hi]
  rfl
theorem venc_get (n i : Nat) (hi : i < (venc n (vlen n)).length) : (venc n (vlen n))[i]? = some (vb n (vlen n - 1 - i)) := by
  have : i < vlen n := by simpa [venc] using hi
  rw [venc, List.getElem?_map, List.getElem?_range this]
  rfl
theorem range_get (f : Nat → Nat) (n i : Nat) (hi : i < ((List.range n).map f).length) : ((List.range n).map f)[i]? = some (f i) := by
  have : i < n := by simpa using hi
  rw [List.getElem?_map, List.getElem?_range this]
  rfl
theorem venc_len (n : Nat) : (venc n (vlen n)).length = vlen n := by simp [venc]
/-- What the message's bytes are. -/
structure Msg (L : List Nat) (t m mv cnt : Nat) (kf fp : Nat → Nat) (k : Nat) : Prop where
  e1 : At (fun i => L.getD i 0) k 0 (vlen t) fun i => vb t (vlen t - 1 - i)
  e2 : At (fun i => L.getD i 0) k (0 + vlen t) (vlen m) fun i => vb m (vlen m - 1 - i)
  e3 : At (fun i => L.getD i 0) k (0 + vlen t + vlen m) m kf
  e4 : At (fun i => L.getD i 0) k (0 + vlen t + vlen m + m) (vlen mv) fun i => vb mv (vlen mv - 1 - i)
  e5 : mv = 1 → At (fun i => L.getD i 0) k (0 + vlen t + vlen m + m + vlen mv) 16 fp
  e6 : mv = 2 → At (fun i => L.getD i 0) k (0 + vlen t + vlen m + m + vlen mv) (vlen cnt) fun i => vb cnt (vlen cnt - 1 - i)
  len : L.length = rlen (vlen t + vlen m + m) mv cnt
theorem msg_of (t m mv cnt : Nat) (kf fp idf : Nat → Nat) (k : Nat) : Msg (head t m kf mv ++ tail mv fp cnt idf) t m mv cnt kf fp k := by
  obtain ⟨L, hL⟩ : ∃ L, L = head t m kf mv ++ tail mv fp cnt idf := ⟨_, rfl⟩
  rw [← hL]
  unfold head at hL
  refine ⟨?_, ?_, ?_, ?_, fun h => ?_, fun h => ?_, ?_⟩
  · have := At_of (L := L) (A := []) (B := venc t (vlen t)) (C := venc m (vlen m) ++ (List.range m).map kf ++ venc mv (vlen mv) ++ tail mv fp cnt idf) k _ (by rw [hL]; simp [List.append_assoc]) (venc_get t)
    rw [venc_len] at this
    exact this
  · have := At_of (L := L) (A := venc t (vlen t)) (B := venc m (vlen m)) (C := (List.range m).map kf ++ venc mv (vlen mv) ++ tail mv fp cnt idf) k _ (by rw [hL]; simp [List.append_assoc]) (venc_get m)
    rw [venc_len, venc_len] at this
    rw [Nat.zero_add]
    exact this
  · have := At_of (L := L) (A := venc t (vlen t) ++ venc m (vlen m)) (B := (List.range m).map kf) (C := venc mv (vlen mv) ++ tail mv fp cnt idf) k _ (by rw [hL]; simp [List.append_assoc]) (range_get kf m)
    rw [List.length_append, venc_len, venc_len, List.length_map, List.length_range] at this
    rw [Nat.zero_add]
    exact this
  · have := At_of (L := L) (A := venc t (vlen t) ++ venc m (vlen m) ++ (List.range m).map kf) (B := venc mv (vlen mv)) (C := tail mv fp cnt idf) k _ (by rw [hL]; simp [List.append_assoc]) (venc_get mv)
    rw [List.length_append, List.length_append, venc_len, venc_len, List.length_map, List.length_range, venc_len] at this
    rw [Nat.zero_add]
    exact this
  · have ht : tail mv fp cnt idf = (List.range 16).map fp := by unfold tail; rw [if_pos h]
    have := At_of (L := L) (A := venc t (vlen t) ++ venc m (vlen m) ++ (List.range m).map kf ++ venc mv (vlen mv)) (B := (List.range 16).map fp) (C := []) k _ (by simp [hL, ht, List.append_assoc]) (range_get fp 16)
    rw [List.length_append, List.length_append, List.length_append, venc_len, venc_len, venc_len, List.length_map, List.length_range, List.length_map, List.length_range] at this
    rw [Nat.zero_add]
    exact this
  · have ht : tail mv fp cnt idf = venc cnt (vlen cnt) ++ (List.range (32 * cnt)).map idf := by unfold tail; rw [if_neg (by omega), if_pos h]
    have := At_of (L := L) (A := venc t (vlen t) ++ venc m (vlen m) ++ (List.range m).map kf ++ venc mv (vlen mv)) (B := venc cnt (vlen cnt)) (C := (List.range (32 * cnt)).map idf) k _ (by simp [hL, ht, List.append_assoc]) (venc_get cnt)
    rw [List.length_append, List.length_append, List.length_append, venc_len, venc_len, venc_len, venc_len, List.length_map, List.length_range] at this
    rw [Nat.zero_add]
    exact this
  · rw [hL]
    unfold tail rlen
    by_cases h1 : mv = 1
    · rw [if_pos h1, if_pos h1]; simp [venc]; omega
    · rw [if_neg h1, if_neg h1]
      by_cases h2 : mv = 2
      · rw [if_pos h2, if_pos h2]; simp [venc]; omega
      · rw [if_neg h2, if_neg h2]; simp [venc]; omega
def zR (v p : Value) (last : Nat) : Array Value := #[v, Value.int IntKind.i64 0, Value.int IntKind.i64 0, p, Value.int IntKind.u64 ↑last, Value.int IntKind.u64 0, Value.int IntKind.u8 0, Value.int IntKind.u8 0, Value.int IntKind.u8 0, Value.int IntKind.u8 0, Value.int IntKind.u8 0, Value.int IntKind.u8 0, Value.int IntKind.u8 0, Value.int IntKind.u8 0, Value.int IntKind.u8 0, Value.int IntKind.u8 0, Value.int IntKind.u8 0, Value.int IntKind.u8 0, Value.int IntKind.u8 0, Value.int IntKind.u8 0, Value.int IntKind.u8 0, Value.int IntKind.u8 0, Value.int IntKind.u8 0, Value.int IntKind.u8 0, Value.int IntKind.u8 0, Value.int IntKind.u8 0, Value.int IntKind.u8 0, Value.int IntKind.u8 0, Value.int IntKind.u8 0, Value.int IntKind.u8 0, Value.int IntKind.u8 0, Value.int IntKind.u8 0, Value.int IntKind.u8 0, Value.int IntKind.u8 0, Value.int IntKind.u8 0, Value.int IntKind.u8 0, Value.int IntKind.u8 0, Value.int IntKind.u8 0, Value.int IntKind.i64 0, Value.int IntKind.i64 0]
def z53 : Array Value := #[Value.int IntKind.u64 0, Value.int IntKind.u8 0, Value.int IntKind.u8 0, Value.int IntKind.u8 0, Value.int IntKind.u8 0, Value.int IntKind.u8 0, Value.int IntKind.u8 0, Value.int IntKind.u8 0, Value.int IntKind.u8 0, Value.int IntKind.u8 0, Value.int IntKind.u8 0, Value.int IntKind.u8 0, Value.int IntKind.u8 0, Value.int IntKind.u8 0, Value.int IntKind.u8 0, Value.int IntKind.u8 0, Value.int IntKind.u8 0, Value.int IntKind.u8 0, Value.int IntKind.u8 0, Value.int IntKind.u8 0, Value.int IntKind.u8 0, Value.int IntKind.u8 0, Value.int IntKind.u8 0, Value.int IntKind.u8 0, Value.int IntKind.u8 0, Value.int IntKind.u8 0, Value.int IntKind.u8 0, Value.int IntKind.u8 0, Value.int IntKind.u8 0, Value.int IntKind.u8 0, Value.int IntKind.u8 0, Value.int IntKind.u8 0, Value.int IntKind.u8 0, Value.int IntKind.i64 0, Value.int IntKind.u64 0, Value.int IntKind.u8 0, Value.int IntKind.u8 0, Value.int IntKind.u8 0, Value.int IntKind.u8 0, Value.int IntKind.u8 0, Value.int IntKind.u8 0, Value.int IntKind.u8 0, Value.int IntKind.u8 0, Value.int IntKind.u8 0, Value.int IntKind.u8 0, Value.int IntKind.u8 0, Value.int IntKind.u8 0, Value.int IntKind.u8 0, Value.int IntKind.u8 0, Value.int IntKind.u8 0, Value.int IntKind.u8 0, Value.slice none 0 0, Value.int IntKind.i64 0]
def r53 (j : Nat) : Value := if j = 0 then .int .u64 0 else if j < 33 then .int .u8 0 else if j = 33 then .int .i64 0 else if j = 34 then .int .u64 0 else if j < 51 then .int .u8 0 else if j = 51 then .slice none 0 0 else .int .i64 0
theorem z53_eq : z53 = Array.ofFn (n := 53) fun i => r53 i.val := Array.ext' (by simp [z53, r53])
theorem z53_get (j : Nat) (hj : j < 53) : z53[j]? = some (r53 j) := by
  rw [z53_eq, Array.getElem?_eq_getElem (by simpa using hj)]; simp
theorem zR_up (v p : Value) (last j : Nat) (hj : j < 40) : ((zR v p last)[j]?).isSome = true := by
  rw [Array.getElem?_eq_getElem (by show j < 40; exact hj)]; rfl
/-- The worlds in which readRange begins. -/
theorem start8 (W : World) (v p : Value) (last : Nat) : RB0 ((W.alloc (.cells (zR v p last) 38)).alloc (.cells z53 41)) W.heap.size last ∧ RG0 ((W.alloc (.cells (zR v p last) 38)).alloc (.cells z53 41)) (W.heap.size + 1) ∧ (∀ j, ((W.alloc (.cells (zR v p last) 38)).alloc (.cells z53 41)).cell? ⟨W.heap.size, j, none⟩ = (zR v p last)[j]?) ∧ Below W.heap.size W ((W.alloc (.cells (zR v p last) 38)).alloc (.cells z53 41)) := by
  have e1 : ∀ j, ((W.alloc (.cells (zR v p last) 38)).alloc (.cells z53 41)).cell? ⟨W.heap.size + 1, j, none⟩ = z53[j]? := fun j => World.cell?_alloc_at _ _ _ _ (by simp)
  have e2 : ∀ j, ((W.alloc (.cells (zR v p last) 38)).alloc (.cells z53 41)).cell? ⟨W.heap.size, j, none⟩ = (zR v p last)[j]? := fun j => by rw [World.cell?_alloc_past _ _ _ (by simp)]; exact World.cell?_alloc_at _ _ _ _ rfl
  refine ⟨⟨by rw [e2]; rfl, fun j hj => by rw [e2]; exact zR_up v p last _ (by omega), by rw [e2]; rfl, fun j => ?_⟩, ⟨⟨by simp, by rw [e1, z53_get _ (by omega)]; rfl, fun i hi => ?_, by rw [e1, z53_get _ (by omega)]; rfl, fun j => by simp⟩, by rw [e1, z53_get _ (by omega)]; rfl, fun i hi => ?_, by rw [e1, z53_get _ (by omega)]; rfl, by rw [e1, z53_get _ (by omega)]; rfl⟩, e2, ((Below.refl _ _).alloc (Nat.le_refl _) _).alloc (by simp) _⟩
  · rw [World.frozen?_alloc_past _ _ _ (by simp)]; exact World.frozen?_alloc_at _ _ _ _ rfl
  · rw [e1, z53_get _ (by omega)]; unfold r53; rw [if_neg (by omega), if_pos (by omega)]
  · rw [e1, z53_get _ (by omega)]; unfold r53; rw [if_neg (by omega), if_neg (by omega), if_neg (by omega), if_neg (by omega), if_pos (by omega)]

set_option maxRecDepth 100000 in
set_option maxHeartbeats 1000000 in
theorem cut_any (F : Interp) (last t : Nat) (kv fv iv : Value) (sel cut kl fl il : Nat) (kf ff idf : Nat → Nat) (w : World) (hF : F.answers w.tape) (ht : t < 18446744073709551616) (hlast : last < 18446744073709551616) (hsel : sel < 256) (hcut : cut < 65536) (hkl : kl ≤ 1024) (hfl : fl ≤ 1024) (hil : il ≤ 8192) (hk : BS w kv kl kf) (hf : BS w fv fl ff) (hi : BS w iv il idf) :
    Calls Ybaf.prog 3 #[.int .u64 last, .int .u64 t, kv, .int .u8 sel, fv, iv, .int .u16 cut] w fun e w' => e = .returned (.bool true) ∧ Below w.heap.size w w' := by
  have hb5 := build_any last t kv fv iv sel kl fl il kf ff idf w ht hlast hsel hkl hfl hil hk hf hi
  have HB5 := hide hb5
  have HF := hide hF
  clear hb5 hF
  obtain ⟨ka, kc, rfl, _⟩ := hk.val
  obtain ⟨fa, fc, rfl, _⟩ := hf.val
  obtain ⟨ia, ic, rfl, _⟩ := hi.val
  clear hk hf hi
  have h1 : ¬ (1024 : Int) < kl := by omega
  have h2 : ¬ (1024 : Int) < fl := by omega
  have h3 : ¬ (8192 : Int) < il := by omega
  go_enter Ybaf.func3, Ybaf.ntmps3
  go_wp2_with fail
  refine HB5.out.mono ?_
  clear HB5
  rintro e w5 ⟨B, v, ids, rfl, hB, hown, hb5, hid1⟩
  obtain ⟨m, hm⟩ : ∃ m, m = min kl 32 := ⟨_, rfl⟩
  obtain ⟨mv, hmv⟩ : ∃ mv, mv = mvOf sel := ⟨_, rfl⟩
  obtain ⟨cnt, hcnt⟩ : ∃ cnt, cnt = il / 32 := ⟨_, rfl⟩
  rw [← hm, ← hmv, ← hcnt] at hown
  have hm32 : m ≤ 32 := by omega
  have hmv66 : mv ≤ 66 := by rw [hmv]; unfold mvOf; split <;> omega
  have hc256 : cnt ≤ 256 := by omega
  obtain ⟨L, hL⟩ : ∃ L, L = head t m kf mv ++ tail mv (fp16 fl ff) cnt idf := ⟨_, rfl⟩
  rw [← hL] at hown
  have hmsg : ∀ k, Msg L t m mv cnt kf (fp16 fl ff) k := fun k => by rw [hL]; exact msg_of t m mv cnt kf (fp16 fl ff) idf k
  obtain ⟨n, hn⟩ : ∃ n, n = L.length := ⟨_, rfl⟩
  rw [← hn] at hown
  have hrl : n = rlen (vlen t + vlen m + m) mv cnt := by rw [hn]; exact (hmsg 0).len
  have hvt : 0 < vlen t := by unfold vlen; split <;> omega
  have hnpos : 0 < n := by rw [hrl]; unfold rlen; omega
  have hn10 : n ≤ 10000 := by
    rw [hrl]
    have h1 := vlen_le ht
    have h2 := vlen_le (n := m) (by omega)
    have h3 := vlen_le (n := mv) (by omega)
    have h4 := vlen_le (n := cnt) (by omega)
    unfold rlen
    split
    · omega
    · split <;> omega
  obtain ⟨g, cap, rfl, hcap, hg⟩ := own_pos hown hnpos
  obtain ⟨C, hC⟩ : ∃ C, C = (specOf t last m kf mv (fp16 fl ff) ids cnt idf).arr := ⟨_, rfl⟩
  rw [← hm, ← hmv, ← hcnt, ← hC]
  obtain ⟨k, hkk⟩ : ∃ k, k = cut % n := ⟨_, rfl⟩
  have hkn : k < n := by rw [hkk]; exact Nat.mod_lt _ hnpos
  have e1 : (cut : Int) % n = k := by rw [hkk]; exact (Int.natCast_emod _ _).symm
  have e2 : (cut : Int).tmod n = k := by rw [Int.tmod_eq_emod_of_nonneg (by omega)]; exact e1
  have e3 := wrap_in (cut : Int) (by omega) (by omega)
  have e4 := wrap_in (k : Int) (by omega) (by omega)
  have e5 : ¬ (n : Int) = 0 := by omega
  have e6 : (k : Int) ≤ cap := by omega
  have e7 : (k : Int) ≤ n := by omega
  have HL := hide (And.intro hL (And.intro hn (And.intro hm (And.intro hmv hcnt))))
  have HMSG := hide hmsg
  have HRL := hide hrl
  have HOWN := hide hown
  have HKK := hide hkk
  have HC := hide hC
  clear hL hn hm hmv hcnt hmsg hrl hown hkk hC
  obtain ⟨W5, hW5⟩ : ∃ W5, W5 = w5.alloc (.cells z57 32) := ⟨_, rfl⟩
  have hCs : C.size = 57 := by rw [HC.out]; exact Sp.arr_size _
  have hone : ∀ v ∈ C.toList, v.oneCell' = true := by rw [HC.out]; exact Sp.one _ hid1
  have hstore : (storeVar 32 ⟨w5.heap.size, 0, none⟩ (.agg C)).run Ybaf.prog W5 = .ok () (W5.setCells w5.heap.size 0 C.toList) := store_agg W5 32 _ 0 C (by rw [hCs]; exact Ybaf.size32) (fun j hj => by rw [hCs] at hj; rw [hW5, Nat.zero_add, World.cell?_alloc_at _ _ _ _ rfl, z57_c j hj]; rfl) (fun j _ => by rw [hW5]; exact World.frozen?_alloc_at _ _ _ _ rfl) hone
  obtain ⟨W6, hW6⟩ : ∃ W6, W6 = W5.setCells w5.heap.size 0 C.toList := ⟨_, rfl⟩
  have hs6 : W6.heap.size = w5.heap.size + 1 := by rw [hW6, size_setCells, hW5]; simp
  have hb6 : Below w5.heap.size w5 W6 := by rw [hW6, hW5]; exact below_setCells _ (Nat.le_refl _) _ _ _ ((Below.refl _ _).alloc (Nat.le_refl _) _)
  rw [← hW6, hW5] at hstore
  unfold z57 at hstore
  have HB6 := hide hb6
  clear hW6 hW5 hCs hone hb6
  have HS6 := hide hs6
  clear hs6
  go_wp2_with ((with_reducible refine wpList_store_run ?_ 32 (.tmp 16) (.tmp 45) ?_ ⟨w5.heap.size, 0, none⟩ ?_ _ ?_ hstore ?_); exact rfl; exact rfl; exact rfl; exact rfl)
  clear hstore
  obtain ⟨W8, hW8⟩ : ∃ W8, W8 = (W6.alloc (.cells (zR (.slice (some ⟨g, 0, none⟩) k cap) (.pointer none) last) 38)).alloc (.cells z53 41) := ⟨_, rfl⟩
  obtain ⟨hRB, hRG, hcb, hb8⟩ := start8 W6 (.slice (some ⟨g, 0, none⟩) k cap) (.pointer none) last
  rw [← hW8] at hRB hRG hcb hb8
  have hs8 : W8.heap.size = W6.heap.size + 2 := by rw [hW8]; simp
  unfold zR z53 at hW8
  rw [← hW8]
  have HW8 := hide hW8
  clear hW8
  have hgl : g < w5.heap.size := (HOWN.out.lt g rfl).2
  have hb58 : Below w5.heap.size w5 W8 := HB6.out.trans (hb8.mono HB6.out.size)
  have hs6 := HS6.out
  have hcs : CSt W6.heap.size g k cap (fun i => L.getD i 0) W8 0 := by
    refine ⟨by rw [hcb]; rfl, by rw [hcb]; rfl, by rw [hcb]; rfl, by rw [hcb]; rfl, hRB.fz 2, by omega, by omega, by omega, by omega, fun i hi => ?_⟩
    rw [hb58.cell (by exact hgl), HOWN.out.cellAt i (by omega)]
    have : i < L.length := by have := HL.out.2.1; omega
    simp [vals, List.getD_eq_getElem?_getD, List.getElem?_eq_getElem this]
  have hM := HMSG.out k
  have hR : Rdr True (fun x => x = g) W6.heap.size k (fun i => L.getD i 0) (CSt W6.heap.size g k cap (fun i => L.getD i 0)) (CSt W6.heap.size g k cap (fun i => L.getD i 0)) := cut_rdr (by omega) (by omega)
  have hrl := HRL.out
  refine (rrange hR F (W6.heap.size + 1) t m 0 last mv cnt k kf (fp16 fl ff) W8 (fun _ => trivial) (by rw [hb58.tape, hb5.tape]; exact HF.out) ht hm32 hlast (by omega) (by omega) (by omega) (by omega) hM.e1 hM.e2 hM.e3 hM.e4 hM.e5 hM.e6 (fun w o h => room_any _ _ k cap o w (by omega) h.le h.c0 h.c2 h.c3) (fun h2 _ => ⟨by omega, hcs.c3⟩) (fun h2 hp hq => by
    exfalso
    have : rlen (vlen t + vlen m + m) mv cnt = vlen t + vlen m + m + vlen mv + (vlen cnt + 32 * cnt) := by unfold rlen; rw [if_neg (by omega), if_pos h2]
    omega) (by omega) (by omega) (by omega) hRG hRB hcs).mono ?_
  rintro e w9 (⟨hk9, _⟩ | ⟨pb, off, o', rfl, hpb, hoff, hst9, hfq9, _⟩)
  · omega
  · have hb9 : Hid (Below w.heap.size w w9) := ⟨by
      have hb08 : Below w.heap.size w W8 := hb5.trans (hb58.mono hb5.size)
      refine ⟨hfq9.os.trans hb08.os, hfq9.tape.trans hb08.tape, hfq9.output.trans hb08.output, Nat.le_trans hb08.size hfq9.size, fun x hx => ?_⟩
      have := hb5.size
      exact (hfq9.block x (by omega) (by omega) (by omega) (by omega)).trans (hb08.block x hx)⟩
    have c2 := hst9.c2
    have l1 : (off : Int) ≤ k := by omega
    have l2 : (o' : Int) ≤ k := by have := hst9.le; omega
    have l3 : decide (off ≤ k) = true := by simpa using hoff
    have l4 : decide (o' ≤ k) = true := by simpa using hst9.le
    clear hfq9 hst9 hcs hR hM hRB hRG hcb hb58 hb8 hb5 hrl hs6 hs8 HS6
    go_wp2
    go_ret
    exact ⟨rfl, hb9.out⟩
end Go.Proofs.YbulkcgfiFmt
