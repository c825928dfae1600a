/- The rules for operations that read or write memory, make it, or call; and slices that own their array. Over any program. -/
import Derived.Test.YtnnembkganlbpaaRu
namespace Go.Sl
open Go Go.RowKit
/-! ### a block within a product -/
class AtP (b : Nat) (o : outParam Obj) (H : HProp) : Prop where
  out : ∃ F, H = pts b o * F
instance (b : Nat) (o : Obj) (F : HProp) : AtP b o (pts b o * F) := ⟨F, rfl⟩
instance (b : Nat) (o : Obj) (F G : HProp) [h : AtP b o F] : AtP b o (G * F) := ⟨by
  obtain ⟨X, rfl⟩ := h.out
  exact ⟨G * X, mul_left_comm' _ _ _⟩⟩
theorem St.c {w0 w : World} {H : HProp} (hs : St w0 H w) (b i : Nat) {cs : Array Value} {E : TypeId} {fr : Nat × Nat} [h : AtP b (.cells cs E fr) H] : w.cell? ⟨b, i, none⟩ = cs[i]? := by
  obtain ⟨F, rfl⟩ := h.out
  exact hs.cell i
class SetP (b o : Nat) (v : Value) (cs : outParam (Array Value)) (H : HProp) (H' : outParam HProp) : Prop where
  out : ∃ E F, H = pts b (.cells cs E (0, 0)) * F ∧ H' = pts b (.cells (cs.setIfInBounds o v) E (0, 0)) * F
instance (b o : Nat) (v : Value) (cs : Array Value) (E : TypeId) (F : HProp) : SetP b o v cs (pts b (.cells cs E (0, 0)) * F) (pts b (.cells (cs.setIfInBounds o v) E (0, 0)) * F) := ⟨E, F, rfl, rfl⟩
instance (b o : Nat) (v : Value) (cs : Array Value) (F F' G : HProp) [h : SetP b o v cs F F'] : SetP b o v cs (G * F) (G * F') := ⟨by
  obtain ⟨E, X, rfl, rfl⟩ := h.out
  exact ⟨E, G * X, mul_left_comm' _ _ _, mul_left_comm' _ _ _⟩⟩
def splice (cs : Array Value) (o : Nat) (vs : List Value) : Array Value := (cs.toList.take o ++ vs ++ cs.toList.drop (o + vs.length)).toArray
class SplP (b o : Nat) (vs : List Value) (cs : outParam (Array Value)) (H : HProp) (H' : outParam HProp) : Prop where
  out : ∃ E F, H = pts b (.cells cs E (0, 0)) * F ∧ H' = pts b (.cells (splice cs o vs) E (0, 0)) * F
instance (b o : Nat) (vs : List Value) (cs : Array Value) (E : TypeId) (F : HProp) : SplP b o vs cs (pts b (.cells cs E (0, 0)) * F) (pts b (.cells (splice cs o vs) E (0, 0)) * F) := ⟨E, F, rfl, rfl⟩
instance (b o : Nat) (vs : List Value) (cs : Array Value) (F F' G : HProp) [h : SplP b o vs cs F F'] : SplP b o vs cs (G * F) (G * F') := ⟨by
  obtain ⟨E, X, rfl, rfl⟩ := h.out
  exact ⟨E, G * X, mul_left_comm' _ _ _, mul_left_comm' _ _ _⟩⟩

/-- a part of a product brought to its head -/
class Foc (P H : HProp) (F : outParam HProp) : Prop where
  out : H = P * F
instance (priority := low) focMul (P P' H F F' : HProp) [h : Foc P H F] [h' : Foc P' F F'] : Foc (P * P') H F' := ⟨by rw [h.out, h'.out, mul_assoc']⟩
instance (P F : HProp) : Foc P (P * F) F := ⟨rfl⟩
instance (P F F' G : HProp) [h : Foc P F F'] : Foc P (G * F) (G * F') := ⟨by rw [h.out, mul_left_comm']⟩
theorem St.up {w0 w : World} {P P' F : HProp} (hs : St w0 (P * F) w) (h : Ent P P') : St w0 (P' * F) w := hs.mono (Ent.mul h (Ent.refl F))
theorem St.mk_pu {w0 w : World} {p : Prop} {P F : HProp} (hp : p) (hs : St w0 (P * F) w) : St w0 (pu p * P * F) w := by
  rw [mul_assoc']; exact St.mk_pure hp hs
theorem St.pu {w0 w : World} {p : Prop} {P F : HProp} (hs : St w0 (Sl.pu p * P * F) w) : p ∧ St w0 (P * F) w := by
  rw [mul_assoc'] at hs; exact hs.pure
theorem St.foc {w0 w : World} {H F : HProp} (hs : St w0 H w) (P : HProp) [h : Foc P H F] : St w0 (P * F) w := hs.eq h.out

instance (priority := low) focLast (P : HProp) : Foc P P 1 := ⟨(mul_one' P).symm⟩
theorem St.out {w0 w : World} {H F : HProp} (hs : St w0 H w) {P : HProp} [h : Foc P H F] : St w0 P w := (hs.foc P).fst
theorem St.fold {w0 w : World} {P P' H F : HProp} (hs : St w0 H w) (e : Ent P P') [h : Foc P H F] : St w0 (P' * F) w := (hs.foc P).up e

/-- The slice v of n elements owns its array, whose first cells are xs. -/
def Arr (E : TypeId) (sz : Nat) (v : Value) (n : Nat) (xs : List Value) : HProp := fun h =>
  xs.length = n * sz ∧ ((v = .slice none 0 0 ∧ n = 0 ∧ emp h) ∨
    ∃ g cap cur, v = .slice (some ⟨g, 0, none⟩) n cap ∧ n ≤ cap ∧ cap ≤ maxLen ∧ cur.size = cap * sz ∧ cur.toList.take (n * sz) = xs ∧ pts g (.cells cur E (0, 0)) h)
theorem Arr.nil (E : TypeId) (sz : Nat) : Arr E sz (.slice none 0 0) 0 [] = 1 := by
  funext h
  apply propext
  constructor
  · rintro ⟨_, ⟨_, _, he⟩ | ⟨g, _, _, e, _⟩⟩
    · exact he
    · cases e
  · intro he
    exact ⟨by simp, .inl ⟨rfl, rfl, he⟩⟩
theorem St.arr_len {w0 w : World} {E : TypeId} {sz : Nat} {v : Value} {n : Nat} {xs : List Value} {F : HProp} (hs : St w0 (Arr E sz v n xs * F) w) : xs.length = n * sz := by
  obtain ⟨h, _, p, q, ⟨hp, _⟩, _⟩ := hs.heap
  exact hp
/-- what an owned slice is -/
theorem St.arr {w0 w : World} {E : TypeId} {sz : Nat} {v : Value} {n : Nat} {xs : List Value} {F : HProp} (hs : St w0 (Arr E sz v n xs * F) w) :
    (v = .slice none 0 0 ∧ n = 0 ∧ xs = [] ∧ St w0 F w) ∨
    ∃ g cap cur, v = .slice (some ⟨g, 0, none⟩) n cap ∧ n ≤ cap ∧ cap ≤ maxLen ∧ cur.size = cap * sz ∧ cur.toList.take (n * sz) = xs ∧ St w0 (Sl.pts g (.cells cur E (0, 0)) * F) w := by
  obtain ⟨h, a, p, q, ⟨hl, hp⟩, hq, d, rfl⟩ := hs.heap
  rcases hp with ⟨rfl, rfl, he⟩ | ⟨g, cap, cur, rfl, h1, h2, h3, h4, h5⟩
  · left
    refine ⟨rfl, rfl, List.eq_nil_of_length_eq_zero (by simpa using hl), hs.drop⟩
  · right
    exact ⟨g, cap, cur, rfl, h1, h2, h3, h4, hs.os, hs.tape, hs.output, _, a, p, q, h5, hq, d, rfl⟩
theorem St.arr_form {w0 w : World} {E : TypeId} {sz : Nat} {v : Value} {n : Nat} {xs : List Value} {F : HProp} (hs : St w0 (Arr E sz v n xs * F) w) : ∃ a c, v = .slice a n c ∧ n ≤ c ∧ c ≤ maxLen := by
  rcases hs.arr with ⟨rfl, rfl, _⟩ | ⟨g, cap, cur, rfl, h1, h2, _⟩
  · exact ⟨none, 0, rfl, Nat.le_refl _, Nat.zero_le _⟩
  · exact ⟨_, _, rfl, h1, h2⟩
/-- a slice that is not empty, and what its cells hold -/
theorem St.arr_slice {w0 w : World} {E : TypeId} {sz : Nat} {v : Value} {n : Nat} {xs : List Value} {F : HProp} (hs : St w0 (Arr E sz v n xs * F) w) (hn : n ≠ 0) :
    ∃ g c, v = .slice (some ⟨g, 0, none⟩) n c ∧ n ≤ c ∧ c ≤ maxLen ∧ ∀ j u, xs[j]? = some u → w.cell? ⟨g, j, none⟩ = some u := by
  rcases hs.arr with ⟨_, rfl, _⟩ | ⟨g, cap, cur, rfl, h1, h2, h3, h4, h5⟩
  · exact absurd rfl hn
  · refine ⟨g, cap, rfl, h1, h2, fun j u hj => ?_⟩
    rw [h5.cell]
    rw [← h4, List.getElem?_take] at hj
    split at hj
    · simpa using hj
    · cases hj
theorem St.mk_arr {w0 w : World} {E : TypeId} {sz g n cap : Nat} {cur : Array Value} {F : HProp} (hs : St w0 (Sl.pts g (.cells cur E (0, 0)) * F) w) (h1 : n ≤ cap) (h2 : cap ≤ maxLen) (h3 : cur.size = cap * sz) :
    St w0 (Arr E sz (.slice (some ⟨g, 0, none⟩) n cap) n (cur.toList.take (n * sz)) * F) w := by
  refine hs.mono (Ent.mul (fun x hx => ⟨?_, .inr ⟨g, cap, cur, rfl, h1, h2, h3, rfl, hx⟩⟩) (Ent.refl _))
  rw [List.length_take, Array.length_toList, h3]
  exact Nat.min_eq_left (Nat.mul_le_mul_right _ h1)
theorem St.mk_arr' {w0 w : World} {E : TypeId} {sz g n cap : Nat} {cur : Array Value} {xs : List Value} {F : HProp} (hs : St w0 (Sl.pts g (.cells cur E (0, 0)) * F) w) (h1 : n ≤ cap) (h2 : cap ≤ maxLen) (h3 : cur.size = cap * sz) (h4 : cur.toList.take (n * sz) = xs) :
    St w0 (Arr E sz (.slice (some ⟨g, 0, none⟩) n cap) n xs * F) w := h4 ▸ hs.mk_arr h1 h2 h3
end Go.Sl

namespace Go.Wk
open Go Go.Sl Go.Net Go.RowKit
section
variable {P : Program} {ops : Array Oper} {Q : Slots → World → Prop} {σ : Slots} {w w0 : World} {H : HProp} {rest : Tre} {held : Nat → World → Prop} {i : Nat} {kp : List Nat}
variable {d : Option Tmp} {ty : TypeId} {ps : String} {af : Array Edge} {gd : Option (Nat × Bool)}

theorem ns_done (h : Q σ w) : NetS P ops Q .nil held σ w := h

/-! ### reading -/
theorem ns_rd {o : Oper} (v : Value) (I : World → Prop) (ho : ops[i]? = some o) (hw : Region.wanted o (yieldS ops σ) = true) (hI : I w) (hr : ∀ w, I w → (execOp (evS σ) o).run P w = .ok (.value v) w)
    (h : NetS P ops Q rest (fun n => if n = i then I else held n) (updO σ o.dst v) w) : NetS P ops Q (.cons ⟨i, 1, kp⟩ rest) held σ w := by
  unfold NetS; exact ⟨o, v, I, ho, hI, .inl ⟨hw, hr⟩, h⟩
theorem plain_size {t : TypeId} (hT : plainT P t = true) : P.cellsOf t = 1 := by
  unfold plainT at hT
  split at hT <;> first | cases hT | simpa using hT
theorem run_loadVar1 {t : TypeId} {ad : Addr} {v : Value} (hT : plainT P t = true) (w : World) (hc : w.cell? ad = some v) : (loadVar t ad).run P w = .ok v w := by
  simp [loadVar, run_isAgg_plain hT, hc]
theorem ns_ld {t : TypeId} {x : Operand} {ad : Addr} {v : Value} (hT : plainT P t = true) (ho : ops[i]? = some ⟨d, .load t x, ty, ps, af, gd⟩) (hw : Region.wanted ⟨d, .load t x, ty, ps, af, gd⟩ (yieldS ops σ) = true)
    (hx : evS σ x = .pointer (some ad)) (hc : w.cell? ad = some v)
    (h : NetS P ops Q rest (fun n => if n = i then (fun w => w.cell? ad = some v) else held n) (updO σ d v) w) : NetS P ops Q (.cons ⟨i, 1, kp⟩ rest) held σ w :=
  ns_rd v (fun w => w.cell? ad = some v) ho hw hc (fun w hw => by simp [execOp, hx, Instr.loadAt, Instr.sureAddr, run_loadVar1 hT w hw]) h
/-- the cells from an address on -/
def Cells (w : World) (ad : Addr) (vs : List Value) : Prop := ∀ j v, vs[j]? = some v → w.cell? (ad.add j) = some v
theorem agg_size {t : TypeId} {n : Nat} (hT : aggT P t n = true) : P.cellsOf t = n := by
  unfold aggT at hT
  split at hT <;> first | cases hT | simpa using hT
theorem run_sizeOf_agg {t : TypeId} {n : Nat} (hT : aggT P t n = true) (hn : n ≠ 0) (w : World) : (sizeOf t).run P w = .ok n w := run_sizeOf (agg_size hT) hn w
theorem run_loadVarA {t : TypeId} {n : Nat} {ad : Addr} {vs : List Value} (hT : aggT P t n = true) (hn : vs.length = n) (h0 : n ≠ 0) (w : World) (hc : Cells w ad vs) : (loadVar t ad).run P w = .ok (.agg vs.toArray) w := by
  have := run_loadCells_list (P := P) w ad vs hc
  rw [hn] at this
  simp [loadVar, run_isAgg_agg hT, run_sizeOf_agg hT h0, this]
theorem ns_ldA {t : TypeId} {n : Nat} {x : Operand} {ad : Addr} (vs : List Value) (hT : aggT P t n = true) (ho : ops[i]? = some ⟨d, .load t x, ty, ps, af, gd⟩) (hw : Region.wanted ⟨d, .load t x, ty, ps, af, gd⟩ (yieldS ops σ) = true)
    (hx : evS σ x = .pointer (some ad)) (hn : vs.length = n) (h0 : n ≠ 0) (hc : Cells w ad vs)
    (h : NetS P ops Q rest (fun n => if n = i then (fun w => Cells w ad vs) else held n) (updO σ d (.agg vs.toArray)) w) : NetS P ops Q (.cons ⟨i, 1, kp⟩ rest) held σ w :=
  ns_rd _ (fun w => Cells w ad vs) ho hw hc (fun w hw => by simp [execOp, hx, Instr.loadAt, Instr.sureAddr, run_loadVarA hT hn h0 w hw]) h

theorem ns_ldB {t : TypeId} {x : Operand} {b o : Nat} {v : Value} {cs : Array Value} {E : TypeId} {fr : Nat × Nat} (hT : plainT P t = true) (hs : St w0 H w) (ho : ops[i]? = some ⟨d, .load t x, ty, ps, af, gd⟩) (hw : Region.wanted ⟨d, .load t x, ty, ps, af, gd⟩ (yieldS ops σ) = true)
    (hx : evS σ x = .pointer (some ⟨b, o, none⟩)) [AtP b (.cells cs E fr) H] (hv : cs[o]? = some v)
    (h : NetS P ops Q rest (fun n => if n = i then (fun w => w.cell? ⟨b, o, none⟩ = some v) else held n) (updO σ d v) w) : NetS P ops Q (.cons ⟨i, 1, kp⟩ rest) held σ w :=
  ns_ld hT ho hw hx ((hs.c b o).trans hv) h
theorem St.cells {b o : Nat} {cs : Array Value} {E : TypeId} {fr : Nat × Nat} (hs : St w0 H w) [AtP b (.cells cs E fr) H] {n : Nat} {vs : List Value} (hv : (cs.toList.drop o).take n = vs) : Cells w ⟨b, o, none⟩ vs := by
  intro j v hj
  subst hv
  rw [add_plain, hs.c b (o + j)]
  rw [List.getElem?_take] at hj
  split at hj
  · rw [List.getElem?_drop] at hj; simpa using hj
  · cases hj
theorem ns_ldAB {t : TypeId} {n : Nat} {x : Operand} {b o : Nat} (vs : List Value) {cs : Array Value} {E : TypeId} {fr : Nat × Nat} (hT : aggT P t n = true) (hs : St w0 H w) (ho : ops[i]? = some ⟨d, .load t x, ty, ps, af, gd⟩) (hw : Region.wanted ⟨d, .load t x, ty, ps, af, gd⟩ (yieldS ops σ) = true)
    (hx : evS σ x = .pointer (some ⟨b, o, none⟩)) [AtP b (.cells cs E fr) H] (hv : (cs.toList.drop o).take n = vs) (hn : vs.length = n) (h0 : n ≠ 0)
    (h : NetS P ops Q rest (fun n => if n = i then (fun w => Cells w ⟨b, o, none⟩ vs) else held n) (updO σ d (.agg vs.toArray)) w) : NetS P ops Q (.cons ⟨i, 1, kp⟩ rest) held σ w :=
  ns_ldA vs hT ho hw hx hn h0 (St.cells hs hv) h

/-! ### writing -/
theorem ns_eff {o : Oper} (ho : ops[i]? = some o) (hw : Region.wanted o (yieldS ops σ) = true)
    (h : Eff P (fun v w' => keepAll held kp w' ∧ NetS P ops Q rest held (updO σ o.dst v) w') ((execOp (evS σ) o).run P w)) : NetS P ops Q (.cons ⟨i, 2, kp⟩ rest) held σ w := by
  unfold NetS; exact ⟨o, ho, hw, h⟩
def Ext (w w' : World) : Prop := ∀ ad v, w.cell? ad = some v → w'.cell? ad = some v
theorem ext_alloc (w : World) (o : Obj) : Ext w (w.alloc o) := fun ad v h => by
  rw [World.cell?_alloc_lt _ _ _ (World.block_lt_of_cell? w ad h)]; exact h
theorem ext_drew (w : World) : Ext w w.drew := fun _ _ h => h
def zeroOf (P : Program) (E : TypeId) : Option Value := (P.info? E).bind (·.zero)
theorem run_zero {E : TypeId} {z : Value} (hz : zeroOf P E = some z) (w : World) : (zeroValue E).run P w = .ok z w := by
  unfold zeroOf at hz
  cases hi : P.info? E with
  | none => rw [hi] at hz; cases hz
  | some inf =>
    rw [hi] at hz
    simp only [Option.bind_some] at hz
    simp [zeroValue, typeInfo, hi, hz]
def zeroC (P : Program) (E : TypeId) : Option (Array Value) := (zeroOf P E).map Value.cells
theorem zeroC_spec {E : TypeId} {zc : Array Value} (h : zeroC P E = some zc) : ∃ z, zeroOf P E = some z ∧ z.cells = zc := by
  unfold zeroC at h
  cases hz : zeroOf P E with
  | none => rw [hz] at h; cases h
  | some z => rw [hz] at h; exact ⟨z, rfl, by simpa using h⟩
theorem ns_allocK {E : TypeId} {zc : Array Value} (hz : zeroC P E = some zc) (hs : St w0 H w) (ho : ops[i]? = some ⟨d, .alloc E, ty, ps, af, gd⟩) (hw : Region.wanted ⟨d, .alloc E, ty, ps, af, gd⟩ (yieldS ops σ) = true)
    (h : ∀ b w', St w0 (pts b (.cells zc E (0, 0)) * H) w' → Ext w w' → keepAll held kp w' ∧ NetS P ops Q rest held (updO σ d (.pointer (some ⟨b, 0, none⟩))) w') : NetS P ops Q (.cons ⟨i, 2, kp⟩ rest) held σ w := by
  obtain ⟨z, hz', rfl⟩ := zeroC_spec hz
  refine ns_eff ho hw ?_
  have := h _ _ (hs.alloc (.cells z.cells E (0, 0))) (ext_alloc w _)
  simp only [execOp, Instr.alloc, Sem.run_bind, run_zero hz', Result.andThen_ok, newVar, newRow]
  simpa [Eff] using this
theorem ns_alloc {E : TypeId} {zc : Array Value} (hz : zeroC P E = some zc) (hs : St w0 H w) (ho : ops[i]? = some ⟨d, .alloc E, ty, ps, af, gd⟩) (hw : Region.wanted ⟨d, .alloc E, ty, ps, af, gd⟩ (yieldS ops σ) = true)
    (h : ∀ b w', St w0 (pts b (.cells zc E (0, 0)) * H) w' → NetS P ops Q rest held (updO σ d (.pointer (some ⟨b, 0, none⟩))) w') : NetS P ops Q (.cons ⟨i, 2, []⟩ rest) held σ w :=
  ns_allocK hz hs ho hw fun b w' hs' _ => ⟨trivial, h b w' hs'⟩
theorem ns_box {E : TypeId} {x : Operand} {v : Value} (cs : Array Value) (hs : St w0 H w) (ho : ops[i]? = some ⟨d, .box E x, ty, ps, af, gd⟩) (hw : Region.wanted ⟨d, .box E x, ty, ps, af, gd⟩ (yieldS ops σ) = true) (hx : evS σ x = v) (hcs : v.cells = cs)
    (h : ∀ b w', St w0 (pts b (.cells cs E (0, 0)) * H) w' → NetS P ops Q rest held (updO σ d (.pointer (some ⟨b, 0, none⟩))) w') : NetS P ops Q (.cons ⟨i, 2, []⟩ rest) held σ w := by
  subst hcs
  refine ns_eff ho hw ?_
  have := h _ _ (hs.alloc (.cells v.cells E (0, 0)))
  simp only [execOp, Instr.box, hx, newVar, newRow]
  simpa [Eff, keepAll] using this
def idx : Nat → List Value → List (Nat × Value)
  | _, [] => []
  | k, v :: l => (k, v) :: idx (k + 1) l
theorem foldl_set (vs : List Value) (off : Nat) : ∀ (k : Nat) (cs : Array Value), off + k + vs.length ≤ cs.size →
    ((vs.zipIdx k).foldl (fun cs (c, j) => cs.setIfInBounds (off + j) c) cs).toList = cs.toList.take (off + k) ++ vs ++ cs.toList.drop (off + k + vs.length) := by
  induction vs with
  | nil => intro k cs h; simp
  | cons v vs ih =>
    intro k cs h
    simp only [List.length_cons] at h
    rw [List.zipIdx_cons, List.foldl_cons, ih (k + 1) _ (by simp; omega)]
    have hlt : off + k < cs.toList.length := by rw [Array.length_toList]; omega
    have e0 : off + (k + 1) = off + k + 1 := by omega
    simp only [Array.toList_setIfInBounds, e0, List.length_cons]
    rw [List.take_succ_eq_append_getElem (by simpa using hlt), List.drop_set_of_lt (by omega)]
    simp only [List.getElem_set_self, List.take_set_of_le (Nat.le_refl _), List.append_assoc, List.singleton_append]
    congr 3
    omega
theorem fill_idx {sz : Nat} : ∀ (vs : List Value) (k : Nat) (cs : Array Value), (∀ v ∈ vs, v.cells.size = sz) → cs.size = (k + vs.length) * sz →
    Instr.fill (fun i => some (i * sz, sz)) cs (idx k vs) = some (cs.toList.take (k * sz) ++ vs.flatMap fun v => v.cells.toList).toArray
  | [], k, cs, _, hs => by
    simp only [idx, Instr.fill, List.flatMap_nil, List.append_nil]
    congr 1
    apply Array.toList_inj.1
    simp at hs
    show cs.toList = cs.toList.take (k * sz)
    rw [List.take_of_length_le (by rw [Array.length_toList, hs]; exact Nat.le_refl _)]
  | v :: vs, k, cs, hv, hs => by
    have h0 := hv v (by simp)
    simp only [List.length_cons] at hs
    have e : (k + (vs.length + 1)) * sz = k * sz + sz + vs.length * sz := by rw [Nat.add_mul, Nat.succ_mul]; omega
    have hfit : ¬ (v.cells.size ≠ sz || k * sz + v.cells.size > cs.size) = true := by simp [h0]; omega
    simp only [idx, Instr.fill]
    rw [if_neg (by simpa using hfit)]
    have hl := foldl_set v.cells.toList (k * sz) 0 cs (by simp [h0]; omega)
    have hz : v.cells.zipIdx.foldl (fun cs (c, j) => cs.setIfInBounds (k * sz + j) c) cs = ((v.cells.toList.zipIdx).foldl (fun cs (c, j) => cs.setIfInBounds (k * sz + j) c) cs) := by
      rw [← Array.foldl_toList, Array.toList_zipIdx]
    rw [hz]
    simp only [Nat.add_zero, Array.length_toList, h0] at hl
    have hlen : ((v.cells.toList.zipIdx).foldl (fun cs (c, j) => cs.setIfInBounds (k * sz + j) c) cs).size = cs.size := by
      rw [← Array.length_toList, hl]; simp [h0]; omega
    rw [fill_idx vs (k + 1) _ (fun u hu => hv u (by simp [hu])) (by rw [hlen, hs, e, Nat.add_mul, Nat.succ_mul]), hl]
    congr 2
    have e3 : (k + 1) * sz = k * sz + sz := Nat.succ_mul k sz
    rw [List.flatMap_cons, ← List.append_assoc]
    congr 1
    rw [List.take_append_of_le_length (by simp [h0]; omega), List.take_of_length_le (by simp [h0]; omega)]
/-- a slice written out -/
theorem ns_lit {t E : TypeId} {sz len : Nat} {z : Value} {parts : Array (Nat × Operand)} (vs : List Value) (cells : List Value) (hT : sliceT P t E sz = true) (hz : zeroOf P E = some z) (hlen : len * sz ≤ 16777216) (hne : len * sz ≠ 0)
    (hs : St w0 H w) (ho : ops[i]? = some ⟨d, .buildSlice t len parts, ty, ps, af, gd⟩) (hw : Region.wanted ⟨d, .buildSlice t len parts, ty, ps, af, gd⟩ (yieldS ops σ) = true)
    (hf : (parts.toList.map fun p => (p.1, evS σ p.2)) = idx 0 vs) (hvl : vs.length = len) (hv : ∀ v ∈ vs, v.cells.size = sz) (hc : (vs.flatMap fun v => v.cells.toList) = cells)
    (h : ∀ b w', St w0 (pts b (.cells cells.toArray E (0, 0)) * H) w' → Ext w w' → keepAll held kp w' ∧ NetS P ops Q rest held (updO σ d (.slice (some ⟨b, 0, none⟩) len len)) w') : NetS P ops Q (.cons ⟨i, 2, kp⟩ rest) held σ w := by
  obtain ⟨hu, inf, hinf, rfl⟩ := sliceT_spec hT
  refine ns_eff ho hw ?_
  have := h _ _ (hs.alloc (.cells cells.toArray E (0, 0))) (ext_alloc w _)
  have hl : ¬ (16777216 < len * inf.size) := by omega
  have hfill := fill_idx (sz := inf.size) vs 0 ((Array.range (len * inf.size)).map (z.cells[· % z.cells.size]!)) hv (by simp [hvl])
  rw [← hf, hc] at hfill
  simp only [execOp, Instr.buildSlice, Sem.run_bind, run_underlying hu, Result.andThen_ok, run_sizeOf' hinf]
  simp at hfill
  simp [hl, hne, run_zero hz, hfill, newRow, Eff]
  exact this
theorem ns_st {t : TypeId} {p x : Operand} {b o : Nat} (v : Value) {cs : Array Value} {H' : HProp} (hT : plainT P t = true) (hs : St w0 H w) (ho : ops[i]? = some ⟨d, .store t p x, ty, ps, af, gd⟩) (hw : Region.wanted ⟨d, .store t p x, ty, ps, af, gd⟩ (yieldS ops σ) = true)
    (hp : evS σ p = .pointer (some ⟨b, o, none⟩)) (hx : evS σ x = v) (hv : v.oneCell' = true) [hS : SetP b o v cs H H'] (hlt : o < cs.size)
    (h : ∀ w', St w0 H' w' → keepAll held kp w' ∧ NetS P ops Q rest held (updO σ d undef) w') : NetS P ops Q (.cons ⟨i, 2, kp⟩ rest) held σ w := by
  refine ns_eff ho hw ?_
  obtain ⟨E, F, rfl, rfl⟩ := hS.out
  have hc : w.cell? ⟨b, o, none⟩ = some cs[o] := by rw [hs.cell]; simp [hlt]
  have hz := hs.frozen o
  have h2 := h _ (hs.setCell o v)
  have hsz := run_sizeOf (P := P) (t := t) (plain_size hT) (by decide)
  have hcells : v.cells = #[v] := by cases v <;> first | rfl | cases hv
  simp only [execOp, Instr.storeAt, hp, hx, Instr.sureAddr, storeVar, hcells]
  have hst : (store ⟨b, o, none⟩ v).run P w = .ok () (w.setCell ⟨b, o, none⟩ v) := by
    cases v <;> first | (simp [store, Sem.run, hc, hz]; done) | cases hv
  simp [hsz, hst, storeCells, Addr.add, Eff]
  exact h2
theorem ns_stA {t : TypeId} {n : Nat} {p x : Operand} {b o : Nat} (vs : Array Value) {cs : Array Value} {H' : HProp} (hT : aggT P t n = true) (hn : vs.size = n) (h0 : n ≠ 0) (hs : St w0 H w) (ho : ops[i]? = some ⟨d, .store t p x, ty, ps, af, gd⟩) (hw : Region.wanted ⟨d, .store t p x, ty, ps, af, gd⟩ (yieldS ops σ) = true)
    (hp : evS σ p = .pointer (some ⟨b, o, none⟩)) (hx : evS σ x = .agg vs) (hv : ∀ u ∈ vs.toList, u.oneCell' = true) [hS : SplP b o vs.toList cs H H'] (hlt : o + n ≤ cs.size)
    (h : ∀ w', St w0 H' w' → keepAll held kp w' ∧ NetS P ops Q rest held (updO σ d undef) w') : NetS P ops Q (.cons ⟨i, 2, kp⟩ rest) held σ w := by
  subst hn
  refine ns_eff ho hw ?_
  obtain ⟨E, F, rfl, rfl⟩ := hS.out
  have h2 := h _ (hs.setRow (cs' := splice cs o vs.toList))
  have hst := run_storeCells_at P b o E vs.toList 0 cs w hs.pts (by simpa using hlt) hv
  have hsz := run_sizeOf_agg (P := P) hT h0
  simp only [Nat.add_zero] at hst
  simp only [execOp, Instr.storeAt, hp, hx, Instr.sureAddr, storeVar, Value.cells]
  simp [hsz, hst, Eff]
  simpa [splice] using h2

/-! ### append, copy, make -/
theorem info_zero {E : TypeId} {z : Value} {inf : TypeInfo} (hi : P.info? E = some inf) (hz : zeroOf P E = some z) : inf.zero = some z := by
  unfold zeroOf at hz; rw [hi] at hz; simpa using hz
theorem addr_zero (g j : Nat) : (⟨g, 0, none⟩ : Addr).add j = ⟨g, j, none⟩ := by rw [add_plain]; simp
theorem splice_size {cs : Array Value} {o : Nat} {vs : List Value} (h : o + vs.length ≤ cs.size) : (splice cs o vs).size = cs.size := by
  simp [splice]; omega
theorem ns_app {t E : TypeId} {sz : Nat} {z : Value} {by' : Nat} {s x : Operand} {v : Value} {n : Nat} {xs : List Value} {F : HProp} {ad : Addr} {m c : Nat} (news : List Value)
    (hT : sliceT P t E sz = true) (hz : zeroOf P E = some z) (hby : P.bytesOf E = by') (hzs : z.cells.size = sz) (hsz : 0 < sz)
    (hs : St w0 (Arr E sz v n xs * F) w) (ho : ops[i]? = some ⟨d, .call { callee := .builtin .append, args := #[s, x], argTypes := #[t, t] }, ty, ps, af, gd⟩)
    (hw : Region.wanted ⟨d, .call { callee := .builtin .append, args := #[s, x], argTypes := #[t, t] }, ty, ps, af, gd⟩ (yieldS ops σ) = true)
    (hsv : evS σ s = v) (hx : evS σ x = .slice (some ad) m c) (hl : news.length = m * sz) (hnews : Cells w ad news) (h1 : ∀ u ∈ news, u.oneCell' = true)
    (h63 : n + m ≤ maxLen) (hb : (n + m) * by' ≤ 140737488355328)
    (h : ∀ v' w', St w0 (Arr E sz v' (n + m) (xs ++ news) * F) w' → (m ≠ 0 → v' ≠ .slice none 0 0) → keepAll held kp w' ∧ NetS P ops Q rest held (updO σ d v') w') : NetS P ops Q (.cons ⟨i, 2, kp⟩ rest) held σ w := by
  obtain ⟨hu, inf, hinf, rfl⟩ := sliceT_spec hT
  have hzi := info_zero hinf hz
  have hbi : inf.bytes = by' := by rw [← hby]; unfold Program.bytesOf; rw [hinf]; rfl
  subst hbi
  have h63' : n + m ≤ 9223372036854775807 := by simp only [maxLen] at h63; omega
  refine ns_eff ho hw ?_
  have hexec : ∀ r w', (Builtin.append_ #[t, t] ty #[v, .slice (some ad) m c]).run P w = .ok r w' →
      (execOp (evS σ) ⟨d, .call { callee := .builtin .append, args := #[s, x], argTypes := #[t, t] }, ty, ps, af, gd⟩).run P w = .ok (.value r) w' := by
    intro r w' hr
    simp [execOp, resolve, invoke, builtin, hsv, hx, hr]
  have hlen := hs.arr_len
  have grown : ∀ (old : Nat) (w' : World), old ≤ n + m → w' = w.drew.alloc (.cells (xs.toArray ++ news.toArray ++ Builtin.zeroCells z.cells (grownCap w (n + m) old E - (n + m))) E (0, 0)) → St w0 F w →
      St w0 (Arr E inf.size (.slice (some ⟨w.heap.size, 0, none⟩) (n + m) (grownCap w (n + m) old E)) (n + m) (xs ++ news) * F) w' := by
    intro old w' _ e hF
    subst e
    refine (hF.drew.alloc _).mk_arr' (grownCap_ge w _ old E) (grownCap_le_maxLen w _ old E h63) ?_ ?_
    · have := grownCap_ge w (n + m) old E
      simp only [Array.size_append, List.size_toArray, size_zeroCells, hzs, hlen, hl, ← Nat.add_mul]
      congr 1; omega
    · have hl2 : (xs ++ news).length = (n + m) * inf.size := by rw [List.length_append, hlen, hl, Nat.add_mul]
      simp only [Array.toList_append]
      rw [← hl2]
      exact List.take_left
  rcases hs.arr with ⟨rfl, rfl, rfl, hF⟩ | ⟨g, cap, cur, rfl, hnc, hcm, hcs, htk, hF⟩
  · by_cases hm : m = 0
    · subst hm
      have hn : news = [] := List.eq_nil_of_length_eq_zero (by simpa using hl)
      subst hn
      rw [hexec (.slice none 0 0) w (by simp [Builtin.append_, run_underlying hu, sizeOf, typeInfo, hinf, Builtin.lenOf, Builtin.firstCells, loadCells, loadCellsFrom])]
      refine h _ _ ?_ (fun hh => absurd rfl hh)
      simpa using hs
    · have hr := run_append_nil (P := P) w t ty E inf z hu hinf hzi ad m c news hl hnews (by omega) (by omega) (by simp only [Nat.zero_add] at hb; omega)
      rw [hexec _ _ hr]
      refine h _ _ ?_ (fun _ e => by cases e)
      have := grown 0 _ (Nat.zero_le _) rfl hF
      simpa using this
  · by_cases hroom : n + m ≤ cap
    · have hfit : n * inf.size + news.length ≤ cur.size := by rw [hl, hcs, ← Nat.add_mul]; exact Nat.mul_le_mul_right _ hroom
      have hr := run_append_room (P := P) w t ty E inf hu hinf g n cap cur hF.pts ad m c news hl hnews h1 hroom hfit
      rw [hexec _ _ hr]
      refine h _ _ ?_ (fun _ e => by cases e)
      refine (hF.setRow).mk_arr' hroom hcm ?_ ?_
      · simp only [List.size_toArray, List.length_append, List.length_take, List.length_drop, Array.length_toList]; omega
      · have hl2 : (xs ++ news).length = (n + m) * inf.size := by rw [List.length_append, hlen, hl, Nat.add_mul]
        show (cur.toList.take (n * inf.size) ++ news ++ cur.toList.drop (n * inf.size + news.length)).take _ = _
        rw [htk, ← hl2]
        exact List.take_left
    · have holds : ∀ j u, xs[j]? = some u → w.cell? ((⟨g, 0, none⟩ : Addr).add j) = some u := by
        intro j u hj
        rw [addr_zero, hF.cell]
        rw [← htk, List.getElem?_take] at hj
        split at hj
        · simpa using hj
        · cases hj
      have hr := run_append_grow (P := P) w t ty E inf z hu hinf hzi ⟨g, 0, none⟩ n cap xs hlen holds ad m c news hl hnews (by omega) (by omega) (growslice_fits (by omega) hb)
      rw [hexec _ _ hr]
      exact h _ _ (grown cap _ (by omega) rfl hF.drop) (fun _ e => by cases e)
/-- nothing is appended -/
theorem ns_app0 {t E : TypeId} {sz : Nat} {s x : Operand} {v : Value} {n : Nat} {xs : List Value} {F : HProp} {c : Nat}
    (hT : sliceT P t E sz = true) (hs : St w0 (Arr E sz v n xs * F) w) (ho : ops[i]? = some ⟨d, .call { callee := .builtin .append, args := #[s, x], argTypes := #[t, t] }, ty, ps, af, gd⟩)
    (hw : Region.wanted ⟨d, .call { callee := .builtin .append, args := #[s, x], argTypes := #[t, t] }, ty, ps, af, gd⟩ (yieldS ops σ) = true)
    (hsv : evS σ s = v) (hx : evS σ x = .slice none 0 c)
    (h : keepAll held kp w ∧ NetS P ops Q rest held (updO σ d v) w) : NetS P ops Q (.cons ⟨i, 2, kp⟩ rest) held σ w := by
  obtain ⟨hu, inf, hinf, rfl⟩ := sliceT_spec hT
  refine ns_eff ho hw ?_
  rcases hs.arr with ⟨rfl, rfl, rfl, hF⟩ | ⟨g, cap, cur, rfl, hnc, hcm, hcs, htk, hF⟩
  · have : (execOp (evS σ) ⟨d, .call { callee := .builtin .append, args := #[s, x], argTypes := #[t, t] }, ty, ps, af, gd⟩).run P w = .ok (.value (.slice none 0 0)) w := by
      simp [execOp, resolve, invoke, builtin, hsv, hx, Builtin.append_, run_underlying hu, sizeOf, typeInfo, hinf, Builtin.lenOf, Builtin.firstCells]
    rw [this]; exact h
  · have : (execOp (evS σ) ⟨d, .call { callee := .builtin .append, args := #[s, x], argTypes := #[t, t] }, ty, ps, af, gd⟩).run P w = .ok (.value (.slice (some ⟨g, 0, none⟩) n cap)) w := by
      simp [execOp, resolve, invoke, builtin, hsv, hx, Builtin.append_, run_underlying hu, sizeOf, typeInfo, hinf, Builtin.lenOf, Builtin.firstCells, hnc, storeCells]
    rw [this]; exact h
theorem ns_copy {t E : TypeId} {sz : Nat} {s x : Operand} {g o n1 c1 m c : Nat} {ad : Addr} {cs : Array Value} {H' : HProp} (news : List Value)
    (hT : sliceT P t E sz = true) (hs : St w0 H w) (ho : ops[i]? = some ⟨d, .call { callee := .builtin .copy, args := #[s, x], argTypes := #[t, t] }, ty, ps, af, gd⟩)
    (hw : Region.wanted ⟨d, .call { callee := .builtin .copy, args := #[s, x], argTypes := #[t, t] }, ty, ps, af, gd⟩ (yieldS ops σ) = true)
    (hsv : evS σ s = .slice (some ⟨g, o, none⟩) n1 c1) (hx : evS σ x = .slice (some ad) m c) (hl : news.length = Nat.min m n1 * sz) (hnews : Cells w ad news) (h1 : ∀ u ∈ news, u.oneCell' = true)
    [hS : SplP g o news cs H H'] (hlt : o + news.length ≤ cs.size)
    (h : ∀ w', St w0 H' w' → keepAll held kp w' ∧ NetS P ops Q rest held (updO σ d (.int .i64 (Nat.min m n1 : Nat))) w') : NetS P ops Q (.cons ⟨i, 2, kp⟩ rest) held σ w := by
  obtain ⟨hu, inf, hinf, rfl⟩ := sliceT_spec hT
  obtain ⟨E', F, rfl, rfl⟩ := hS.out
  refine ns_eff ho hw ?_
  have h2 := h _ (hs.setRow (cs' := splice cs o news))
  have hf := run_firstCells_some (P := P) w inf.size (Nat.min m n1) ad m c news hl hnews
  have hst := run_storeCells_at P g o E' news 0 cs w hs.pts (by simpa using hlt) h1
  simp only [Nat.add_zero] at hst
  have : (execOp (evS σ) ⟨d, .call { callee := .builtin .copy, args := #[s, x], argTypes := #[t, t] }, ty, ps, af, gd⟩).run P w = .ok (.value (.int .i64 (Nat.min m n1 : Nat))) (w.setRow g (splice cs o news)) := by
    simp only [execOp, resolve, invoke, builtin, Sem.run_bind, Sem.run_pure, Result.andThen_ok, List.map_toArray, List.map_cons, List.map_nil, hsv, hx]
    simp only [Builtin.copy_, List.getElem?_toArray, List.getElem?_cons_zero, List.getElem?_cons_succ, Sem.run_bind, run_underlying hu, Result.andThen_ok, Builtin.lenOf, Sem.run_pure, run_sizeOf' hinf, hf, hst, goInt]
    rfl
  rw [this]
  exact h2

/-! ### calls -/
def CallOk (P : Program) (f : FuncId) : Prop := ∀ (args : Array Value) (w : World), (callFunc f args).run P w = .ok (.enter f args) w
theorem callOk_of {f : FuncId} {fn : Func} {c : Code} (hf : P.funcs[f]? = some fn) (hb : fn.body = some c) (hn : (fn.name == "runtime.NumGoroutine") = false) : CallOk P f := by
  intro args w
  have hn' : ¬ fn.name = "runtime.NumGoroutine" := by simpa using hn
  simp [callFunc, hf, hb, hn']
theorem ns_callK {fop : Operand} {xs : Array Operand} {ats : Array TypeId} {f : FuncId} {first captured as : Array Value} {Pre : HProp} {Post : Value → HProp} {F : HProp}
    (ht : Tri P f as Pre Post) (hcf : CallOk P f) (hs : St w0 (Pre * F) w) (ho : ops[i]? = some ⟨d, .call { callee := .value fop, args := xs, argTypes := ats }, ty, ps, af, gd⟩)
    (hw : Region.wanted ⟨d, .call { callee := .value fop, args := xs, argTypes := ats }, ty, ps, af, gd⟩ (yieldS ops σ) = true)
    (hf : evS σ fop = .func (.func f) first captured) (ha : first.toList ++ xs.toList.map (evS σ) ++ captured.toList = as.toList)
    (h : ∀ v w', St w0 (Post v * F) w' → keepAll held kp w' ∧ NetS P ops Q rest held (updO σ d v) w') : NetS P ops Q (.cons ⟨i, 2, kp⟩ rest) held σ w := by
  refine ns_eff ho hw ?_
  have : (execOp (evS σ) ⟨d, .call { callee := .value fop, args := xs, argTypes := ats }, ty, ps, af, gd⟩).run P w = .ok (.enter f as) w := by
    have ha' : as = first ++ xs.map (evS σ) ++ captured := by
      apply Array.toList_inj.1
      rw [← ha]; simp
    subst ha'
    simp only [execOp, resolve, hf, Deferred.ofValue, Sem.run_bind, Sem.run_pure, Result.andThen_ok, invoke]
    exact hcf _ _
  rw [this]
  refine (ht w0 F w hs).mono ?_
  rintro e w' ⟨v, rfl, hs'⟩
  exact ⟨v, rfl, h v w' hs'⟩
theorem ns_call {fop : Operand} {xs : Array Operand} {ats : Array TypeId} {f : FuncId} {first captured as : Array Value} {Pre : HProp} {Post : Value → HProp} {F : HProp}
    (ht : Tri P f as Pre Post) (hcf : CallOk P f) (hs : St w0 (Pre * F) w) (ho : ops[i]? = some ⟨d, .call { callee := .value fop, args := xs, argTypes := ats }, ty, ps, af, gd⟩)
    (hw : Region.wanted ⟨d, .call { callee := .value fop, args := xs, argTypes := ats }, ty, ps, af, gd⟩ (yieldS ops σ) = true)
    (hf : evS σ fop = .func (.func f) first captured) (ha : first.toList ++ xs.toList.map (evS σ) ++ captured.toList = as.toList)
    (h : ∀ v w', St w0 (Post v * F) w' → NetS P ops Q rest held (updO σ d v) w') : NetS P ops Q (.cons ⟨i, 2, []⟩ rest) held σ w :=
  ns_callK ht hcf hs ho hw hf ha fun v w' hs' => ⟨trivial, h v w' hs'⟩
end
end Go.Wk
