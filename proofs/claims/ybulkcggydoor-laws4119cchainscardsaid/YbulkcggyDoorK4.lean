import Derived.Test.YbulkcggyDoorK3
namespace Go.Proofs.YbulkcggyDoor
open Go.RowKit
set_option linter.unusedVariables false
set_option linter.unusedSectionVars false
set_option linter.unusedSimpArgs false
set_option maxRecDepth 100000
section
variable {α : Type} [DecidableEq α] (kf : α → Value)
/-- A map's entries: its keys in the order in which they came. -/
def ents (f : α → Value) : Nat → List α → List MapEntry
  | _, [] => []
  | b, a :: ks => { key := kf a, val := f a, born := b } :: ents f (b + 1) ks
def upd (f : α → Value) (a : α) (v : Value) : α → Value := fun b => if b = a then v else f b
theorem ents_len (f : α → Value) : ∀ (b : Nat) (ks : List α), (ents kf f b ks).length = ks.length
  | _, [] => rfl
  | b, a :: ks => by simp [ents, ents_len f (b + 1) ks]
theorem ents_append (f : α → Value) : ∀ (b : Nat) (ks ls : List α), ents kf f b (ks ++ ls) = ents kf f b ks ++ ents kf f (b + ks.length) ls
  | b, [], ls => by simp [ents]
  | b, a :: ks, ls => by
    simp [ents, ents_append f (b + 1) ks ls]
    congr 1
    omega
theorem ents_congr {f g : α → Value} : ∀ (b : Nat) (ks : List α), (∀ a ∈ ks, f a = g a) → ents kf f b ks = ents kf g b ks
  | _, [], _ => rfl
  | b, a :: ks, h => by
    simp only [ents]
    rw [h a (by simp), ents_congr (b + 1) ks (fun x hx => h x (by simp [hx]))]
theorem ents_mem (f : α → Value) : ∀ (b : Nat) (ks : List α) (e : MapEntry), e ∈ ents kf f b ks → ∃ i a, ks[i]? = some a ∧ e = { key := kf a, val := f a, born := b + i }
  | _, [], e, h => by simp [ents] at h
  | b, a :: ks, e, h => by
    simp only [ents, List.mem_cons] at h
    rcases h with h | h
    · exact ⟨0, a, by simp, by simpa using h⟩
    · obtain ⟨i, a', h1, h2⟩ := ents_mem f (b + 1) ks e h
      exact ⟨i + 1, a', by simpa using h1, by rw [h2]; congr 1; omega⟩
theorem ents_get (f : α → Value) : ∀ (b : Nat) (ks : List α) (i : Nat) (a : α), ks[i]? = some a → (ents kf f b ks)[i]? = some { key := kf a, val := f a, born := b + i }
  | _, [], i, a, h => by simp at h
  | b, x :: ks, 0, a, h => by simp at h; subst h; simp [ents]
  | b, x :: ks, i + 1, a, h => by
    have := ents_get f (b + 1) ks i a (by simpa using h)
    simp only [ents, List.getElem?_cons_succ]
    rw [this]
    congr 2
    omega
theorem ents_born (f : α → Value) : ∀ (b : Nat) (ks : List α), (ents kf f b ks).map (·.born) = List.range' b ks.length
  | _, [] => rfl
  | b, a :: ks => by simp [ents, ents_born f (b + 1) ks, List.range'_succ]
variable {kf} {kt : TypeId}
theorem find_no (heq : ∀ a b w, (Op.equal kt (kf a) (kf b)).run Ybad.prog w = .ok (decide (a = b)) w) (f : α → Value) (a : α) (w : World) : ∀ (b : Nat) (ks : List α) (i : Nat), a ∉ ks → (Instr.findAsking kt (kf a) (ents kf f b ks) i).run Ybad.prog w = .ok none w
  | _, [], i, _ => by simp [ents, Instr.findAsking]
  | b, x :: ks, i, h => by
    have hx : a ≠ x := fun e => h (by simp [e])
    have ih := find_no heq f a w (b + 1) ks (i + 1) (fun hm => h (by simp [hm]))
    simp [ents, Instr.findAsking, heq, hx, ih]
theorem find_yes (heq : ∀ a b w, (Op.equal kt (kf a) (kf b)).run Ybad.prog w = .ok (decide (a = b)) w) (f : α → Value) (a : α) (w : World) : ∀ (b : Nat) (pre post : List α) (i : Nat), a ∉ pre → (Instr.findAsking kt (kf a) (ents kf f b (pre ++ a :: post)) i).run Ybad.prog w = .ok (some (i + pre.length, f a)) w
  | b, [], post, i, _ => by simp [ents, Instr.findAsking, heq]
  | b, x :: pre, post, i, h => by
    have hx : a ≠ x := fun e => h (by simp [e])
    have ih := find_yes heq f a w (b + 1) pre post (i + 1) (fun hm => h (by simp [hm]))
    simp [ents, Instr.findAsking, heq, hx, ih]
    omega
theorem findKey_no (fs : Array Field) (hk : Ybad.prog.underlying kt = some (.struct fs)) (heq : ∀ a b w, (Op.equal kt (kf a) (kf b)).run Ybad.prog w = .ok (decide (a = b)) w) (f : α → Value) (a : α) (w : World) (ks : List α) (h : a ∉ ks) : (Instr.findKey kt (kf a) (ents kf f 0 ks)).run Ybad.prog w = .ok none w := by
  unfold Instr.findKey
  rw [Sem.run_bind, run_underlying hk]
  cases ks with
  | nil => simp [ents, Instr.findNow]
  | cons x ks =>
    have := find_no heq f a w 0 (x :: ks) 0 h
    simpa [ents, Instr.findNow, Instr.sameNow] using this
theorem findKey_yes (fs : Array Field) (hk : Ybad.prog.underlying kt = some (.struct fs)) (heq : ∀ a b w, (Op.equal kt (kf a) (kf b)).run Ybad.prog w = .ok (decide (a = b)) w) (f : α → Value) (a : α) (w : World) (pre post : List α) (h : a ∉ pre) : (Instr.findKey kt (kf a) (ents kf f 0 (pre ++ a :: post))).run Ybad.prog w = .ok (some (pre.length, f a)) w := by
  unfold Instr.findKey
  rw [Sem.run_bind, run_underlying hk]
  have := find_yes heq f a w 0 pre post 0 h
  rw [Nat.zero_add] at this
  cases pre with
  | nil => simpa [ents, Instr.findNow, Instr.sameNow] using this
  | cons x pre => simpa [ents, Instr.findNow, Instr.sameNow] using this
theorem split_first (a : α) : ∀ ks : List α, a ∈ ks → ∃ pre post, ks = pre ++ a :: post ∧ a ∉ pre
  | [], h => by simp at h
  | x :: ks, h => by
    by_cases hx : a = x
    · exact ⟨[], ks, by rw [hx]; rfl, by simp⟩
    · obtain ⟨pre, post, h1, h2⟩ := split_first a ks (by simpa [hx] using h)
      exact ⟨x :: pre, post, by rw [h1]; rfl, by simp [hx, h2]⟩
/-- What is asked of a kind of keys. -/
structure Keys (kf : α → Value) (kt : TypeId) : Prop where
  str : ∃ fs, Ybad.prog.underlying kt = some (.struct fs)
  eq : ∀ a b w, (Op.equal kt (kf a) (kf b)).run Ybad.prog w = .ok (decide (a = b)) w
  chk : ∀ em a w, (Instr.checkKey em 10000 kt (kf a)).run Ybad.prog w = .ok () w
  bits : ∀ a, Instr.sameBits 10000 (kf a) (kf a) = true
theorem stays (K : Keys kf kt) (a : α) (w : World) : (Instr.keyThatStays (kf a) (kf a)).run Ybad.prog w = .ok (kf a) w := by
  unfold Instr.keyThatStays
  rw [if_pos (K.bits a)]
  simp
theorem ents_modify (f : α → Value) (a : α) (v : Value) : ∀ (b : Nat) (pre post : List α), a ∉ pre → a ∉ post → (ents kf f b (pre ++ a :: post)).modify pre.length (fun e => { e with key := kf a, val := v }) = ents kf (upd f a v) b (pre ++ a :: post)
  | b, [], post, _, hp => by
    simp only [List.nil_append, List.length_nil, ents]
    rw [ents_congr kf (f := f) (g := upd f a v) (b + 1) post (fun x hx => (if_neg (fun (e : x = a) => hp (e ▸ hx))).symm)]
    simp [upd]
  | b, x :: pre, post, h, hp => by
    have hx : x ≠ a := fun e => h (by simp [e])
    have ih := ents_modify f a v (b + 1) pre post (fun hm => h (by simp [hm])) hp
    simp only [List.cons_append, List.length_cons, ents, List.modify_succ_cons, ih]
    congr 1
    simp [upd, hx]
theorem ents_push (f : α → Value) (a : α) (v : Value) (ks : List α) (h : a ∉ ks) : ents kf f 0 ks ++ [{ key := kf a, val := v, born := ks.length }] = ents kf (upd f a v) 0 (ks ++ [a]) := by
  rw [ents_append, ents_congr kf (f := f) (g := upd f a v) 0 ks (fun x hx => (if_neg (fun (e : x = a) => h (e ▸ hx))).symm)]
  simp [ents, upd]
/-- Block r is the map of the keys ks, each with f's value. -/
def MapAt (w : World) (r : Nat) (kf : α → Value) (f : α → Value) (ks : List α) : Prop := w.heap[r]? = some (.map (ents kf f 0 ks).toArray ks.length)
theorem lookup_no {mt et : TypeId} (hm : Ybad.prog.underlying mt = some (.map kt et)) (K : Keys kf kt) (f : α → Value) (a : α) (w : World) (r : Nat) (ks : List α) (z : Value) (hz : (zeroValue et).run Ybad.prog w = .ok z w) (h : MapAt w r kf f ks) (ha : a ∉ ks) : (Instr.lookup mt (.map (some r)) (kf a) true).run Ybad.prog w = .ok (.tuple #[z, .bool false]) w := by
  obtain ⟨fs, hk⟩ := K.str
  have h1 := findKey_no fs hk K.eq f a w ks ha
  unfold MapAt at h
  simp [Instr.lookup, run_underlying hm, MapKept.run_getObj_map h, K.chk, h1, hz]
theorem lookup_yes {mt et : TypeId} (hm : Ybad.prog.underlying mt = some (.map kt et)) (K : Keys kf kt) (f : α → Value) (a : α) (w : World) (r : Nat) (ks : List α) (h : MapAt w r kf f ks) (ha : a ∈ ks) : (Instr.lookup mt (.map (some r)) (kf a) true).run Ybad.prog w = .ok (.tuple #[f a, .bool true]) w := by
  obtain ⟨fs, hk⟩ := K.str
  obtain ⟨pre, post, rfl, hp⟩ := split_first a ks ha
  have h1 := findKey_yes fs hk K.eq f a w pre post hp
  unfold MapAt at h
  simp [Instr.lookup, run_underlying hm, MapKept.run_getObj_map h, K.chk, h1]
/-- The world with another thing in block r. -/
def setB (w : World) (r : Nat) (o : Obj) : World := { w with heap := w.heap.setIfInBounds r o }
theorem setB_at {w : World} {r : Nat} (o : Obj) (h : r < w.heap.size) : (setB w r o).heap[r]? = some o := by simp [setB, h]
theorem setB_other {w : World} {r g : Nat} (o : Obj) (h : g ≠ r) : (setB w r o).heap[g]? = w.heap[g]? := by
  simp [setB, Array.getElem?_setIfInBounds, Ne.symm h]
@[simp] theorem setB_size {w : World} {r : Nat} (o : Obj) : (setB w r o).heap.size = w.heap.size := by simp [setB]
theorem update_new {mt et : TypeId} (hm : Ybad.prog.underlying mt = some (.map kt et)) (K : Keys kf kt) (f : α → Value) (a : α) (v : Value) (w : World) (r : Nat) (ks : List α) (h : MapAt w r kf f ks) (ha : a ∉ ks) :
    (Instr.mapUpdate mt (.map (some r)) (kf a) v).run Ybad.prog w = .ok () (setB w r (.map (ents kf (upd f a v) 0 (ks ++ [a])).toArray (ks ++ [a]).length)) := by
  obtain ⟨fs, hk⟩ := K.str
  have h1 := findKey_no fs hk K.eq f a w ks ha
  unfold MapAt at h
  rw [← ents_push f a v ks ha]
  simp [Instr.mapUpdate, run_underlying hm, MapKept.run_getObj_map h, K.chk, h1, MapKept.run_setObj_map _ h, Result.andThen, setB]
theorem update_old {mt et : TypeId} (hm : Ybad.prog.underlying mt = some (.map kt et)) (K : Keys kf kt) (f : α → Value) (a : α) (v : Value) (w : World) (r : Nat) (ks : List α) (h : MapAt w r kf f ks) (ha : a ∈ ks) (hn : ks.Nodup) :
    (Instr.mapUpdate mt (.map (some r)) (kf a) v).run Ybad.prog w = .ok () (setB w r (.map (ents kf (upd f a v) 0 ks).toArray ks.length)) := by
  obtain ⟨fs, hk⟩ := K.str
  obtain ⟨pre, post, rfl, hp⟩ := split_first a ks ha
  have hpost : a ∉ post := by
    rw [List.nodup_append] at hn
    exact (List.nodup_cons.1 hn.2.1).1
  have h1 := findKey_yes fs hk K.eq f a w pre post hp
  have hg : (ents kf f 0 (pre ++ a :: post))[pre.length]? = some { key := kf a, val := f a, born := pre.length } := by
    have := ents_get kf f 0 (pre ++ a :: post) pre.length a (by simp)
    rwa [Nat.zero_add] at this
  unfold MapAt at h
  rw [← ents_modify f a v 0 pre post hp hpost]
  simp [Instr.mapUpdate, run_underlying hm, MapKept.run_getObj_map h, K.chk, h1, hg, stays K, MapKept.run_setObj_map _ h, Result.andThen, setB]
theorem ents_self (f : α → Value) (a : α) : ∀ (b : Nat) (pre post : List α), (ents kf f b (pre ++ a :: post)).modify pre.length (fun e => { e with key := kf a }) = ents kf f b (pre ++ a :: post)
  | b, [], post => by simp [ents]
  | b, x :: pre, post => by
    have ih := ents_self f a (b + 1) pre post
    simp only [List.cons_append, List.length_cons, ents, List.modify_succ_cons, ih]
theorem setB_same {w : World} {r : Nat} {o : Obj} (h : w.heap[r]? = some o) : setB w r o = w := by
  have e : w.heap.setIfInBounds r o = w.heap := by
    apply Array.ext_getElem?
    intro k
    rw [Array.getElem?_setIfInBounds]
    split
    · rename_i hk
      subst hk
      split
      · exact h.symm
      · rename_i hlt
        simp [Array.getElem?_eq_none (by omega : w.heap.size ≤ r)] at h
    · rfl
  unfold setB
  rw [e]
theorem entry_old {mt et : TypeId} (hm : Ybad.prog.underlying mt = some (.map kt et)) (K : Keys kf kt) (f : α → Value) (a : α) (w : World) (r : Nat) (pre post : List α) (h : MapAt w r kf f (pre ++ a :: post)) (hp : a ∉ pre) :
    (Instr.mapEntry mt (.map (some r)) (kf a)).run Ybad.prog w = .ok (.tuple #[f a, goInt pre.length]) w := by
  obtain ⟨fs, hk⟩ := K.str
  have h1 := findKey_yes fs hk K.eq f a w pre post hp
  have hg : (ents kf f 0 (pre ++ a :: post))[pre.length]? = some { key := kf a, val := f a, born := pre.length } := by
    have := ents_get kf f 0 (pre ++ a :: post) pre.length a (by simp)
    rwa [Nat.zero_add] at this
  unfold MapAt at h
  have hs := setB_same h
  unfold setB at hs
  simp [Instr.mapEntry, run_underlying hm, MapKept.run_getObj_map h, K.chk, h1, hg, stays K, MapKept.run_setObj_map _ h, Result.andThen, ents_self] 
  simpa using hs
theorem entry_new {mt et : TypeId} (hm : Ybad.prog.underlying mt = some (.map kt et)) (K : Keys kf kt) (f : α → Value) (a : α) (w : World) (r : Nat) (ks : List α) (z : Value) (hz : (zeroValue et).run Ybad.prog w = .ok z w) (h : MapAt w r kf f ks) (ha : a ∉ ks) :
    (Instr.mapEntry mt (.map (some r)) (kf a)).run Ybad.prog w = .ok (.tuple #[z, goInt ks.length]) (setB w r (.map (ents kf (upd f a z) 0 (ks ++ [a])).toArray (ks ++ [a]).length)) := by
  obtain ⟨fs, hk⟩ := K.str
  have h1 := findKey_no fs hk K.eq f a w ks ha
  unfold MapAt at h
  rw [← ents_push f a z ks ha]
  simp [Instr.mapEntry, run_underlying hm, MapKept.run_getObj_map h, K.chk, h1, hz, MapKept.run_setObj_map _ h, Result.andThen, setB]
theorem findIdx_ents (f : α → Value) : ∀ (b : Nat) (pre post : List α) (a : α), (ents kf f b (pre ++ a :: post)).findIdx? (fun e => ((e.born : Nat) : Int) == ((b + pre.length : Nat) : Int)) = some pre.length
  | b, [], post, a => by simp [ents, List.findIdx?_cons]
  | b, x :: pre, post, a => by
    have ih := findIdx_ents f (b + 1) pre post a
    have e : b + 1 + pre.length = b + (pre.length + 1) := by omega
    rw [e] at ih
    have hne : (((b : Nat) : Int) == ((b + (pre.length + 1) : Nat) : Int)) = false := by simp; omega
    simp only [List.cons_append, ents, List.length_cons, List.findIdx?_cons, hne, ih]
    simp
theorem store_entry {mt : TypeId} (f : α → Value) (a : α) (v : Value) (w : World) (r : Nat) (pre post : List α) (h : MapAt w r kf f (pre ++ a :: post)) (hp : a ∉ pre) (hpost : a ∉ post) :
    (Instr.entryStore mt (.map (some r)) (goInt pre.length) v).run Ybad.prog w = .ok () (setB w r (.map (ents kf (upd f a v) 0 (pre ++ a :: post)).toArray (pre ++ a :: post).length)) := by
  have h1 := findIdx_ents (kf := kf) f 0 pre post a
  simp only [Nat.zero_add] at h1
  have h2 := ents_modify (kf := kf) f a v 0 pre post hp hpost
  have h3 : (ents kf f 0 (pre ++ a :: post)).modify pre.length (fun e => { e with val := v }) = ents kf (upd f a v) 0 (pre ++ a :: post) := by
    rw [← h2]
    have hg : (ents kf f 0 (pre ++ a :: post))[pre.length]? = some { key := kf a, val := f a, born := pre.length } := by
      have := ents_get kf f 0 (pre ++ a :: post) pre.length a (by simp)
      rwa [Nat.zero_add] at this
    apply List.ext_getElem?
    intro j
    simp only [List.getElem?_modify]
    by_cases hj : pre.length = j
    · subst hj
      simp [hg]
    · simp [hj]
  unfold MapAt at h
  rw [← h3]
  have ha : (asInt (Value.int IntKind.i64 (pre.length : Int))).run Ybad.prog w = .ok (pre.length : Int) w := rfl
  simp [Instr.entryStore, MapKept.run_getObj_map h, goInt, ha, h1, MapKept.run_setObj_map _ h, Result.andThen, setB]
end
end Go.Proofs.YbulkcggyDoor
