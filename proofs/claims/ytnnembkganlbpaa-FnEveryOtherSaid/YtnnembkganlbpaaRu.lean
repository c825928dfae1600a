/- One rule for each kind of operation: what it comes to, over frames by slot and the separation logic. Over any program. -/
import Derived.Test.YtnnembkganlbpaaWk
namespace Go.Wk
open Go Go.Sl Go.Net Go.RowKit

/-! ### What a program's types are -/
def fieldOff (P : Program) (S : TypeId) (f : Nat) : Option Nat :=
  match P.underlying S with
  | some (.struct fs) => match fs[f]? with
    | some fd => if P.cellsOf fd.type = 0 then none else some fd.offset
    | none => none
  | _ => none
/-- a type whose values are one cell -/
def plainT (P : Program) (t : TypeId) : Bool := match P.underlying t with
  | some (.struct _) | some (.array _ _) | none => false
  | some _ => P.cellsOf t == 1
/-- a type whose values are several cells -/
def aggT (P : Program) (t : TypeId) (n : Nat) : Bool := match P.underlying t with
  | some (.struct _) | some (.array _ _) => P.cellsOf t == n
  | _ => false
def sliceT (P : Program) (t E : TypeId) (sz : Nat) : Bool := match P.underlying t with
  | some (.slice e) => e == E && (P.cellsOf E == sz) && (P.info? E).isSome
  | _ => false
theorem run_underlying' {P : Program} {t : TypeId} {d : TypeDesc} (h : P.underlying t = some d) (w : World) : (underlying t).run P w = .ok d w := run_underlying h w
theorem info_of_cells {P : Program} {t : TypeId} {n : Nat} (h : P.cellsOf t = n) (hn : n ≠ 0) : ∃ i, P.info? t = some i ∧ i.size = n := by
  unfold Program.cellsOf at h
  cases hi : P.info? t with
  | none => rw [hi] at h; simp at h; omega
  | some i => rw [hi] at h; exact ⟨i, rfl, by simpa using h⟩
theorem run_sizeOf {P : Program} {t : TypeId} {n : Nat} (h : P.cellsOf t = n) (hn : n ≠ 0) (w : World) : (sizeOf t).run P w = .ok n w := by
  obtain ⟨i, hi, hs⟩ := info_of_cells h hn
  simp [sizeOf, typeInfo, hi, hs, go_sem]
theorem run_sizeOf' {P : Program} {t : TypeId} {i : TypeInfo} (h : P.info? t = some i) (w : World) : (sizeOf t).run P w = .ok i.size w := by
  simp [sizeOf, typeInfo, h, go_sem]
theorem run_isAgg_plain {P : Program} {t : TypeId} (h : plainT P t = true) (w : World) : (isAgg t).run P w = .ok false w := by
  unfold plainT at h
  cases hu : P.underlying t with
  | none => rw [hu] at h; cases h
  | some d =>
    rw [hu] at h
    cases d <;> simp [isAgg, run_underlying hu, go_sem] at h ⊢
theorem run_isAgg_agg {P : Program} {t : TypeId} {n : Nat} (h : aggT P t n = true) (w : World) : (isAgg t).run P w = .ok true w := by
  unfold aggT at h
  cases hu : P.underlying t with
  | none => rw [hu] at h; cases h
  | some d =>
    rw [hu] at h
    cases d <;> simp [isAgg, run_underlying hu, go_sem] at h ⊢

/-! ### Operations that read no memory -/
section
variable {P : Program} {ops : Array Oper} {Q : Slots → World → Prop} {σ : Slots} {w : World} {rest : Tre} {held : Nat → World → Prop} {i : Nat} {kp : List Nat}
variable {d : Option Tmp} {ty : TypeId} {ps : String} {af : Array Edge} {gd : Option (Nat × Bool)}

theorem ns_val {o : Oper} (v : Value) (ho : ops[i]? = some o) (hw : Region.wanted o (yieldS ops σ) = true) (hr : ∀ w, (execOp (evS σ) o).run P w = .ok (.value v) w)
    (h : NetS P ops Q rest held (updO σ o.dst v) w) : NetS P ops Q (.cons ⟨i, 0, kp⟩ rest) held σ w := by
  unfold NetS; exact ⟨o, v, ho, .inl ⟨hw, hr⟩, h⟩
/-- an operation whose guard says no -/
theorem ns_no {o : Oper} (ho : ops[i]? = some o) (hw : Region.wanted o (yieldS ops σ) = false)
    (h : NetS P ops Q rest held (updO σ o.dst undef) w) : NetS P ops Q (.cons ⟨i, 0, kp⟩ rest) held σ w := by
  unfold NetS; exact ⟨o, undef, ho, .inr ⟨hw, rfl⟩, h⟩
theorem ns_move {x : Operand} (ho : ops[i]? = some ⟨d, .move x, ty, ps, af, gd⟩) (hw : Region.wanted ⟨d, .move x, ty, ps, af, gd⟩ (yieldS ops σ) = true)
    (h : NetS P ops Q rest held (updO σ d (evS σ x)) w) : NetS P ops Q (.cons ⟨i, 0, kp⟩ rest) held σ w := ns_val _ ho hw (fun _ => rfl) h
theorem ns_asg {x : Operand} (ho : ops[i]? = some ⟨d, .assign x, ty, ps, af, gd⟩) (hw : Region.wanted ⟨d, .assign x, ty, ps, af, gd⟩ (yieldS ops σ) = true)
    (h : NetS P ops Q rest held (updO σ d (evS σ x)) w) : NetS P ops Q (.cons ⟨i, 0, kp⟩ rest) held σ w := ns_val _ ho hw (fun _ => rfl) h
theorem ns_pick {c a b : Operand} {t : Bool} (ho : ops[i]? = some ⟨d, .pick c a b, ty, ps, af, gd⟩) (hw : Region.wanted ⟨d, .pick c a b, ty, ps, af, gd⟩ (yieldS ops σ) = true) (hc : evS σ c = .bool t)
    (h : NetS P ops Q rest held (updO σ d (if t then evS σ a else evS σ b)) w) : NetS P ops Q (.cons ⟨i, 0, kp⟩ rest) held σ w :=
  ns_val _ ho hw (fun w => by simp [execOp, hc, asBool]) h
theorem ns_nil {x : Operand} {ad : Addr} (ho : ops[i]? = some ⟨d, .nilCheck x, ty, ps, af, gd⟩) (hw : Region.wanted ⟨d, .nilCheck x, ty, ps, af, gd⟩ (yieldS ops σ) = true) (hx : evS σ x = .pointer (some ad))
    (h : NetS P ops Q rest held (updO σ d (.pointer (some ad))) w) : NetS P ops Q (.cons ⟨i, 0, kp⟩ rest) held σ w :=
  ns_val _ ho hw (fun w => by simp [execOp, hx]) h
theorem add_plain (b o k : Nat) : (⟨b, o, none⟩ : Addr).add k = ⟨b, o + k, none⟩ := by
  unfold Addr.add; split
  · rename_i h; subst h; rfl
  · rfl
theorem run_fieldAt {S : TypeId} {f k b o : Nat} (hf : fieldOff P S f = some k) (w : World) : (Instr.fieldAt S (.pointer (some ⟨b, o, none⟩)) f).run P w = .ok (.pointer (some ⟨b, o + k, none⟩)) w := by
  unfold fieldOff at hf
  split at hf
  · rename_i fs hu
    split at hf
    · rename_i fd hfd
      split at hf
      · cases hf
      · rename_i hc
        simp only [Option.some.injEq] at hf
        subst hf
        have hs := run_sizeOf (P := P) (t := fd.type) rfl hc w
        simp [Instr.fieldAt, run_underlying hu, hfd, Instr.sureAddr, fieldPlace, hs, hc, add_plain]
    · cases hf
  · cases hf
theorem ns_fld {S : TypeId} {x : Operand} {f k b o : Nat} (hf : fieldOff P S f = some k) (ho : ops[i]? = some ⟨d, .fieldAddr S x f, ty, ps, af, gd⟩) (hw : Region.wanted ⟨d, .fieldAddr S x f, ty, ps, af, gd⟩ (yieldS ops σ) = true)
    (hx : evS σ x = .pointer (some ⟨b, o, none⟩)) (h : NetS P ops Q rest held (updO σ d (.pointer (some ⟨b, o + k, none⟩))) w) : NetS P ops Q (.cons ⟨i, 0, kp⟩ rest) held σ w :=
  ns_val _ ho hw (fun w => by simp [execOp, hx, run_fieldAt hf]) h
theorem sliceT_spec {t E : TypeId} {sz : Nat} (h : sliceT P t E sz = true) : P.underlying t = some (.slice E) ∧ ∃ i, P.info? E = some i ∧ i.size = sz := by
  unfold sliceT at h
  split at h
  · rename_i e hu
    simp only [Bool.and_eq_true, beq_iff_eq] at h
    obtain ⟨⟨rfl, h2⟩, h3⟩ := h
    refine ⟨hu, ?_⟩
    cases hi : P.info? e with
    | none => rw [hi] at h3; cases h3
    | some i => exact ⟨i, rfl, by unfold Program.cellsOf at h2; rw [hi] at h2; simpa using h2⟩
  · cases h
theorem ns_idx {t E : TypeId} {sz : Nat} {x ix : Operand} {b o n c : Nat} {k : IntKind} {m : Int} (j : Nat) (hT : sliceT P t E sz = true) (ho : ops[i]? = some ⟨d, .indexAddr t x ix, ty, ps, af, gd⟩) (hw : Region.wanted ⟨d, .indexAddr t x ix, ty, ps, af, gd⟩ (yieldS ops σ) = true)
    (hx : evS σ x = .slice (some ⟨b, o, none⟩) n c) (hi : evS σ ix = .int k m) (hm : m = (j : Int)) (hj : j < n)
    (h : NetS P ops Q rest held (updO σ d (.pointer (some ⟨b, o + j * sz, none⟩))) w) : NetS P ops Q (.cons ⟨i, 0, kp⟩ rest) held σ w := by
  obtain ⟨hu, inf, hinf, rfl⟩ := sliceT_spec hT
  refine ns_val _ ho hw (fun w => ?_) h
  simp [execOp, hx, hi, hm, Instr.indexAt, asIntOf, run_underlying hu, run_sizeOf' hinf, add_plain]
  intro hh; omega
theorem run_sliceBound (k : IntKind) (m y : Nat) (code : BoundsCode) (h : m ≤ y) (w : World) : (Instr.sliceBound (.int k m) y code).run P w = .ok m w := by
  have : ((0 : Int) ≤ (m : Int) ∧ (m : Int) ≤ (y : Int)) := by omega
  simp [Instr.sliceBound, asIntOf, this]
/-- x[:hi] of a slice -/
theorem ns_sliceHi {t E : TypeId} {sz : Nat} {x hi : Operand} {a : Option Addr} {n c : Nat} {k : IntKind} {m : Int} (j : Nat) (hT : sliceT P t E sz = true) (ho : ops[i]? = some ⟨d, .slice t x none (some hi) none, ty, ps, af, gd⟩) (hw : Region.wanted ⟨d, .slice t x none (some hi) none, ty, ps, af, gd⟩ (yieldS ops σ) = true)
    (hx : evS σ x = .slice a n c) (hi : evS σ hi = .int k m) (hm : m = (j : Int)) (hj : j ≤ c)
    (h : NetS P ops Q rest held (updO σ d (.slice a j c)) w) : NetS P ops Q (.cons ⟨i, 0, kp⟩ rest) held σ w := by
  obtain ⟨hu, inf, hinf, rfl⟩ := sliceT_spec hT
  refine ns_val _ ho hw (fun w => ?_) h
  have ha : (if c = 0 then a else a.map (fun x => x.add 0)) = a := by
    cases a with
    | none => simp
    | some a => simp [Addr.add]
  simp [execOp, hx, hi, hm, Instr.sliceAt, Instr.slice, Instr.sliceBounds, run_underlying hu, run_sliceBound _ _ _ _ hj, run_sizeOf' hinf, ha]
/-- x[lo:] of a slice -/
theorem ns_sliceLo {t E : TypeId} {sz : Nat} {x lo : Operand} {a : Option Addr} {n c : Nat} {k : IntKind} {m : Int} (j : Nat) (hT : sliceT P t E sz = true) (ho : ops[i]? = some ⟨d, .slice t x (some lo) none none, ty, ps, af, gd⟩) (hw : Region.wanted ⟨d, .slice t x (some lo) none none, ty, ps, af, gd⟩ (yieldS ops σ) = true)
    (hx : evS σ x = .slice a n c) (hi : evS σ lo = .int k m) (hm : m = (j : Int)) (hj : j ≤ n)
    (h : NetS P ops Q rest held (updO σ d (.slice (if c = j then a else a.map (·.add (j * sz))) (n - j) (c - j))) w) : NetS P ops Q (.cons ⟨i, 0, kp⟩ rest) held σ w := by
  obtain ⟨hu, inf, hinf, rfl⟩ := sliceT_spec hT
  refine ns_val _ ho hw (fun w => ?_) h
  simp [execOp, hx, hi, hm, Instr.sliceAt, Instr.slice, Instr.sliceBounds, run_underlying hu, run_sliceBound _ _ _ _ hj, run_sizeOf' hinf]
theorem ns_sliceLo' {t E : TypeId} {sz : Nat} {x lo : Operand} {b o n c : Nat} {k : IntKind} {m : Int} (j : Nat) (hT : sliceT P t E sz = true) (ho : ops[i]? = some ⟨d, .slice t x (some lo) none none, ty, ps, af, gd⟩) (hw : Region.wanted ⟨d, .slice t x (some lo) none none, ty, ps, af, gd⟩ (yieldS ops σ) = true)
    (hx : evS σ x = .slice (some ⟨b, o, none⟩) n c) (hi : evS σ lo = .int k m) (hm : m = (j : Int)) (hj : j ≤ n)
    (h : NetS P ops Q rest held (updO σ d (.slice (some ⟨b, o + (if c = j then 0 else j * sz), none⟩) (n - j) (c - j))) w) : NetS P ops Q (.cons ⟨i, 0, kp⟩ rest) held σ w := by
  refine ns_sliceLo j hT ho hw hx hi hm hj ?_
  have e : (if c = j then some (⟨b, o, none⟩ : Addr) else Option.map (·.add (j * sz)) (some (⟨b, o, none⟩ : Addr))) = some ⟨b, o + (if c = j then 0 else j * sz), none⟩ := by
    split
    · rfl
    · simp [add_plain]
  rw [e]; exact h
theorem ns_len {t E : TypeId} {sz : Nat} {x : Operand} {a : Option Addr} {n c : Nat} (hT : sliceT P t E sz = true) (ho : ops[i]? = some ⟨d, .call { callee := .builtin .len, args := #[x], argTypes := #[t] }, ty, ps, af, gd⟩) (hw : Region.wanted ⟨d, .call { callee := .builtin .len, args := #[x], argTypes := #[t] }, ty, ps, af, gd⟩ (yieldS ops σ) = true)
    (hx : evS σ x = .slice a n c) (h : NetS P ops Q rest held (updO σ d (.int .i64 (n : Int))) w) : NetS P ops Q (.cons ⟨i, 0, kp⟩ rest) held σ w := by
  obtain ⟨hu, inf, hinf, rfl⟩ := sliceT_spec hT
  refine ns_val _ ho hw (fun w => ?_) h
  simp [execOp, resolve, invoke, builtin, Builtin.len_, run_underlying hu, hx, goInt]
theorem ns_cap {t E : TypeId} {sz : Nat} {x : Operand} {a : Option Addr} {n c : Nat} (hT : sliceT P t E sz = true) (ho : ops[i]? = some ⟨d, .call { callee := .builtin .cap, args := #[x], argTypes := #[t] }, ty, ps, af, gd⟩) (hw : Region.wanted ⟨d, .call { callee := .builtin .cap, args := #[x], argTypes := #[t] }, ty, ps, af, gd⟩ (yieldS ops σ) = true)
    (hx : evS σ x = .slice a n c) (h : NetS P ops Q rest held (updO σ d (.int .i64 (c : Int))) w) : NetS P ops Q (.cons ⟨i, 0, kp⟩ rest) held σ w := by
  obtain ⟨hu, inf, hinf, rfl⟩ := sliceT_spec hT
  refine ns_val _ ho hw (fun w => ?_) h
  simp [execOp, resolve, invoke, builtin, Builtin.cap_, run_underlying hu, hx, goInt]
theorem ns_ext {x : Operand} {vs : Array Value} {v : Value} {ix : Nat} (ho : ops[i]? = some ⟨d, .extract x ix, ty, ps, af, gd⟩) (hw : Region.wanted ⟨d, .extract x ix, ty, ps, af, gd⟩ (yieldS ops σ) = true)
    (hx : evS σ x = .tuple vs) (hv : vs[ix]? = some v) (h : NetS P ops Q rest held (updO σ d v) w) : NetS P ops Q (.cons ⟨i, 0, kp⟩ rest) held σ w :=
  ns_val _ ho hw (fun w => by simp [execOp, hx, Instr.extract, hv]) h
theorem ns_not {t : TypeId} {x : Operand} {b : Bool} (ho : ops[i]? = some ⟨d, .unOp .not t x, ty, ps, af, gd⟩) (hw : Region.wanted ⟨d, .unOp .not t x, ty, ps, af, gd⟩ (yieldS ops σ) = true)
    (hx : evS σ x = .bool b) (h : NetS P ops Q rest held (updO σ d (.bool (!b))) w) : NetS P ops Q (.cons ⟨i, 0, kp⟩ rest) held σ w :=
  ns_val _ ho hw (fun w => by simp [execOp, hx, Op.unary]) h
theorem wrap64_in {x : Int} (h1 : -9223372036854775808 ≤ x) (h2 : x ≤ 9223372036854775807) : IntKind.i64.wrap x = x := by
  simp only [IntKind.wrap, IntKind.bits, IntKind.signed, Bool.true_and]
  split <;> rename_i h <;> simp at h <;> omega
theorem ns_add {t t' : TypeId} {x y : Operand} {a b : Int} (ho : ops[i]? = some ⟨d, .binOp .add t x y t', ty, ps, af, gd⟩) (hw : Region.wanted ⟨d, .binOp .add t x y t', ty, ps, af, gd⟩ (yieldS ops σ) = true)
    (hx : evS σ x = .int .i64 a) (hy : evS σ y = .int .i64 b) (h1 : -9223372036854775808 ≤ a + b) (h2 : a + b ≤ 9223372036854775807) (h : NetS P ops Q rest held (updO σ d (.int .i64 (a + b))) w) : NetS P ops Q (.cons ⟨i, 0, kp⟩ rest) held σ w :=
  ns_val _ ho hw (fun w => by simp [execOp, hx, hy, eqGuard, binOp, Op.intArith, wrap64_in h1 h2]) h
theorem ns_sub {t t' : TypeId} {x y : Operand} {a b : Int} (ho : ops[i]? = some ⟨d, .binOp .sub t x y t', ty, ps, af, gd⟩) (hw : Region.wanted ⟨d, .binOp .sub t x y t', ty, ps, af, gd⟩ (yieldS ops σ) = true)
    (hx : evS σ x = .int .i64 a) (hy : evS σ y = .int .i64 b) (h1 : -9223372036854775808 ≤ a - b) (h2 : a - b ≤ 9223372036854775807) (h : NetS P ops Q rest held (updO σ d (.int .i64 (a - b))) w) : NetS P ops Q (.cons ⟨i, 0, kp⟩ rest) held σ w :=
  ns_val _ ho hw (fun w => by simp [execOp, hx, hy, eqGuard, binOp, Op.intArith, wrap64_in h1 h2]) h
theorem ns_mul {t t' : TypeId} {x y : Operand} {a b : Int} (ho : ops[i]? = some ⟨d, .binOp .mul t x y t', ty, ps, af, gd⟩) (hw : Region.wanted ⟨d, .binOp .mul t x y t', ty, ps, af, gd⟩ (yieldS ops σ) = true)
    (hx : evS σ x = .int .i64 a) (hy : evS σ y = .int .i64 b) (h1 : -9223372036854775808 ≤ a * b) (h2 : a * b ≤ 9223372036854775807) (h : NetS P ops Q rest held (updO σ d (.int .i64 (a * b))) w) : NetS P ops Q (.cons ⟨i, 0, kp⟩ rest) held σ w :=
  ns_val _ ho hw (fun w => by simp [execOp, hx, hy, eqGuard, binOp, Op.intArith, wrap64_in h1 h2]) h
theorem ns_quo {t t' : TypeId} {x y : Operand} {a b : Int} (ho : ops[i]? = some ⟨d, .binOp .quo t x y t', ty, ps, af, gd⟩) (hw : Region.wanted ⟨d, .binOp .quo t x y t', ty, ps, af, gd⟩ (yieldS ops σ) = true)
    (hx : evS σ x = .int .i64 a) (hy : evS σ y = .int .i64 b) (h0 : b ≠ 0) (h1 : -9223372036854775808 ≤ a.tdiv b) (h2 : a.tdiv b ≤ 9223372036854775807) (h : NetS P ops Q rest held (updO σ d (.int .i64 (a.tdiv b))) w) : NetS P ops Q (.cons ⟨i, 0, kp⟩ rest) held σ w :=
  ns_val _ ho hw (fun w => by simp [execOp, hx, hy, eqGuard, binOp, Op.intDiv, h0, wrap64_in h1 h2]) h
theorem ns_rem {t t' : TypeId} {x y : Operand} {a b : Int} (ho : ops[i]? = some ⟨d, .binOp .rem t x y t', ty, ps, af, gd⟩) (hw : Region.wanted ⟨d, .binOp .rem t x y t', ty, ps, af, gd⟩ (yieldS ops σ) = true)
    (hx : evS σ x = .int .i64 a) (hy : evS σ y = .int .i64 b) (h0 : b ≠ 0) (h : NetS P ops Q rest held (updO σ d (.int .i64 (a.tmod b))) w) : NetS P ops Q (.cons ⟨i, 0, kp⟩ rest) held σ w :=
  ns_val _ ho hw (fun w => by simp [execOp, hx, hy, eqGuard, binOp, Op.intDiv, h0]) h
/-- a comparison of whole numbers -/
def cmpI : BinOp → Int → Int → Option Bool
  | .eql, a, b => some (a == b)
  | .neq, a, b => some (a != b)
  | .lss, a, b => some (decide (a < b))
  | .leq, a, b => some (decide (a ≤ b))
  | .gtr, a, b => some (decide (a > b))
  | .geq, a, b => some (decide (a ≥ b))
  | _, _, _ => none
theorem ns_cmp {op : BinOp} {t t' : TypeId} {x y : Operand} {k : IntKind} {a b : Int} (c : Bool) (ho : ops[i]? = some ⟨d, .binOp op t x y t', ty, ps, af, gd⟩) (hw : Region.wanted ⟨d, .binOp op t x y t', ty, ps, af, gd⟩ (yieldS ops σ) = true)
    (hx : evS σ x = .int k a) (hy : evS σ y = .int k b) (hc : cmpI op a b = some c) (h : NetS P ops Q rest held (updO σ d (.bool c)) w) : NetS P ops Q (.cons ⟨i, 0, kp⟩ rest) held σ w :=
  ns_val _ ho hw (fun w => by cases op <;> simp only [cmpI, Option.some.injEq, reduceCtorEq] at hc <;> subst hc <;> simp [execOp, hx, hy, eqGuard, binOp, Op.intCmp]) h
theorem ns_beq {t t' : TypeId} {x y : Operand} {a b : Bool} (hu : P.underlying t = some .bool) (ho : ops[i]? = some ⟨d, .binOp .eql t x y t', ty, ps, af, gd⟩) (hw : Region.wanted ⟨d, .binOp .eql t x y t', ty, ps, af, gd⟩ (yieldS ops σ) = true)
    (hx : evS σ x = .bool a) (hy : evS σ y = .bool b) (h : NetS P ops Q rest held (updO σ d (.bool (a == b))) w) : NetS P ops Q (.cons ⟨i, 0, kp⟩ rest) held σ w :=
  ns_val _ ho hw (fun w => by simp [execOp, hx, hy, eqGuard, run_eql_bool w t a b hu]) h
theorem ns_bne {t t' : TypeId} {x y : Operand} {a b : Bool} (hu : P.underlying t = some .bool) (ho : ops[i]? = some ⟨d, .binOp .neq t x y t', ty, ps, af, gd⟩) (hw : Region.wanted ⟨d, .binOp .neq t x y t', ty, ps, af, gd⟩ (yieldS ops σ) = true)
    (hx : evS σ x = .bool a) (hy : evS σ y = .bool b) (h : NetS P ops Q rest held (updO σ d (.bool (!(a == b)))) w) : NetS P ops Q (.cons ⟨i, 0, kp⟩ rest) held σ w :=
  ns_val _ ho hw (fun w => by simp [execOp, hx, hy, eqGuard, run_neq_bool w t a b hu]) h
def ptrT (P : Program) (t : TypeId) : Bool := match P.underlying t with
  | some (.pointer e) => P.cellsOf e != 0
  | _ => false
/-- pointers held against nil, or two into one block -/
def cmpP : Option Addr → Option Addr → Option Bool
  | none, none => some true
  | none, some _ => some false
  | some _, none => some false
  | some a, some b => if a.block == b.block then some (a == b) else none
theorem run_peqIn {t : TypeId} {p q : Option Addr} {c : Bool} (m : Nat) (hT : ptrT P t = true) (hc : cmpP p q = some c) (w : World) : (Op.equalIn (m + 1) t (.pointer p) (.pointer q)).run P w = .ok c w := by
  unfold ptrT at hT
  split at hT
  · rename_i e hu
    have hs := run_sizeOf (P := P) (t := e) rfl (by simpa using hT)
    have he : P.cellsOf e ≠ 0 := by simpa using hT
    rw [Op.equalIn]
    cases p with
    | none => cases q <;> simp only [cmpP, Option.some.injEq] at hc <;> subst hc <;> simp [run_underlying hu]
    | some a =>
      cases q with
      | none => simp only [cmpP, Option.some.injEq] at hc; subst hc; simp [run_underlying hu]
      | some b =>
        simp only [cmpP] at hc
        split at hc
        · rename_i hab
          simp only [Option.some.injEq] at hc; subst hc
          have hab' : a.block = b.block := by simpa using hab
          simp [run_underlying hu, hs, he, sameAddr, hab']
        · cases hc
  · cases hT
theorem run_peq {t : TypeId} {p q : Option Addr} {c : Bool} (hT : ptrT P t = true) (hc : cmpP p q = some c) (w : World) : (Op.equal t (.pointer p) (.pointer q)).run P w = .ok c w := run_peqIn 9999 hT hc w
theorem run_binpeq {t : TypeId} {p q : Option Addr} {c : Bool} (hT : ptrT P t = true) (hc : cmpP p q = some c) (w : World) : (binOp .eql t (.pointer p) (.pointer q)).run P w = .ok (.bool c) w := by
  simp only [binOp]; simp [run_peq hT hc]
theorem run_binpne {t : TypeId} {p q : Option Addr} {c : Bool} (hT : ptrT P t = true) (hc : cmpP p q = some c) (w : World) : (binOp .neq t (.pointer p) (.pointer q)).run P w = .ok (.bool (!c)) w := by
  simp only [binOp]; simp [run_peq hT hc]
theorem ns_peq {t t' : TypeId} {x y : Operand} {p q : Option Addr} (c : Bool) (hT : ptrT P t = true) (ho : ops[i]? = some ⟨d, .binOp .eql t x y t', ty, ps, af, gd⟩) (hw : Region.wanted ⟨d, .binOp .eql t x y t', ty, ps, af, gd⟩ (yieldS ops σ) = true)
    (hx : evS σ x = .pointer p) (hy : evS σ y = .pointer q) (hc : cmpP p q = some c) (h : NetS P ops Q rest held (updO σ d (.bool c)) w) : NetS P ops Q (.cons ⟨i, 0, kp⟩ rest) held σ w :=
  ns_val _ ho hw (fun w => by simp [execOp, hx, hy, eqGuard, run_binpeq hT hc]) h
theorem ns_pne {t t' : TypeId} {x y : Operand} {p q : Option Addr} (c : Bool) (hT : ptrT P t = true) (ho : ops[i]? = some ⟨d, .binOp .neq t x y t', ty, ps, af, gd⟩) (hw : Region.wanted ⟨d, .binOp .neq t x y t', ty, ps, af, gd⟩ (yieldS ops σ) = true)
    (hx : evS σ x = .pointer p) (hy : evS σ y = .pointer q) (hc : cmpP p q = some c) (h : NetS P ops Q rest held (updO σ d (.bool (!c))) w) : NetS P ops Q (.cons ⟨i, 0, kp⟩ rest) held σ w :=
  ns_val _ ho hw (fun w => by simp [execOp, hx, hy, eqGuard, run_binpne hT hc]) h
theorem ns_fun {fn : Fn} {first captured : Array Operand} (ho : ops[i]? = some ⟨d, .makeFunc fn first captured, ty, ps, af, gd⟩) (hw : Region.wanted ⟨d, .makeFunc fn first captured, ty, ps, af, gd⟩ (yieldS ops σ) = true)
    (h : NetS P ops Q rest held (updO σ d (.func fn (first.map (evS σ)) (captured.map (evS σ)))) w) : NetS P ops Q (.cons ⟨i, 0, kp⟩ rest) held σ w :=
  ns_val _ ho hw (fun w => by simp [execOp, Instr.makeFunc]) h
end
end Go.Wk
