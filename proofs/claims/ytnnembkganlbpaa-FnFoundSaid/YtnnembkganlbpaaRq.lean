/- Rules for arrays, parts of slices, the greater and the lesser, items held against each other. -/
import Derived.Test.YtnnembkganlbpaaRo
import Derived.Test.YtnnembkganlbpaaFa
namespace Go.Wk
open Go Go.Sl Go.Net Go.RowKit
section
variable {P : Program} {ops : Array Oper} {Q : Slots → World → Prop} {σ : Slots} {w w0 : World} {H : HProp} {rest : Tre} {held : Nat → World → Prop} {i : Nat} {kp : List Nat}
variable {d : Option Tmp} {ty : TypeId} {ps : String} {af : Array Edge} {gd : Option (Nat × Bool)}
def arrT (P : Program) (t : TypeId) (len : Nat) (E : TypeId) (sz : Nat) : Bool := match P.underlying t with
  | some (.array n e) => n == len && e == E && P.cellsOf e == sz && sz != 0
  | _ => false
theorem ns_idxA {t E : TypeId} {len sz : Nat} {x ix : Operand} {b o : Nat} {k : IntKind} {m : Int} (j : Nat) (hT : arrT P t len E sz = true) (ho : ops[i]? = some ⟨d, .indexAddr t x ix, ty, ps, af, gd⟩) (hw : Region.wanted ⟨d, .indexAddr t x ix, ty, ps, af, gd⟩ (yieldS ops σ) = true)
    (hx : evS σ x = .pointer (some ⟨b, o, none⟩)) (hi : evS σ ix = .int k m) (hm : m = (j : Int)) (hj : j < len)
    (h : NetS P ops Q rest held (updO σ d (.pointer (some ⟨b, o + j * sz, none⟩))) w) : NetS P ops Q (.cons ⟨i, 0, kp⟩ rest) held σ w := by
  unfold arrT at hT
  split at hT
  · rename_i n e hu
    simp only [Bool.and_eq_true, beq_iff_eq, bne_iff_ne, ne_eq] at hT
    obtain ⟨⟨⟨rfl, rfl⟩, rfl⟩, h0⟩ := hT
    refine ns_val _ ho hw (fun w => ?_) h
    have hs := run_sizeOf (P := P) (t := e) rfl h0
    have hj' : ((0 : Int) ≤ (j : Int) ∧ (j : Int) < (n : Int)) := by omega
    simp [execOp, hx, hi, hm, Instr.indexAt, asIntOf, run_underlying hu, Instr.sureAddr, hs, add_plain]
    intro hh; omega
  · cases hT
/-- an array with nothing laid in it -/
theorem ns_buildA {t E : TypeId} {len sz : Nat} {zc : Array Value} (hT : arrT P t len E sz = true) (hz : zeroC P t = some zc)
    (ho : ops[i]? = some ⟨d, .build t #[], ty, ps, af, gd⟩) (hw : Region.wanted ⟨d, .build t #[], ty, ps, af, gd⟩ (yieldS ops σ) = true)
    (h : NetS P ops Q rest held (updO σ d (.agg zc)) w) : NetS P ops Q (.cons ⟨i, 0, kp⟩ rest) held σ w := by
  obtain ⟨z, hz', rfl⟩ := zeroC_spec hz
  unfold arrT at hT
  split at hT
  · rename_i n e hu
    simp only [Bool.and_eq_true, beq_iff_eq, bne_iff_ne, ne_eq] at hT
    obtain ⟨⟨⟨rfl, rfl⟩, rfl⟩, h0⟩ := hT
    refine ns_val _ ho hw (fun w => ?_) h
    have hs := run_sizeOf (P := P) (t := e) rfl h0
    simp [execOp, Instr.build, run_zero hz', run_underlying hu, hs, Instr.fill]
  · cases hT
/-- two Booleans, held against each other, with the outcome -/
theorem ns_bne2 {t t' : TypeId} {x y : Operand} {a b : Bool} (r : Bool) (hu : P.underlying t = some .bool) (ho : ops[i]? = some ⟨d, .binOp .neq t x y t', ty, ps, af, gd⟩) (hw : Region.wanted ⟨d, .binOp .neq t x y t', ty, ps, af, gd⟩ (yieldS ops σ) = true)
    (hx : evS σ x = .bool a) (hy : evS σ y = .bool b) (hr : (!(a == b)) = r) (h : NetS P ops Q rest held (updO σ d (.bool r)) w) : NetS P ops Q (.cons ⟨i, 0, kp⟩ rest) held σ w := by
  subst hr; exact ns_bne hu ho hw hx hy h
theorem Cells.at {w : World} {g o : Nat} {vs : List Value} (h : Cells w ⟨g, o, none⟩ vs) (j : Nat) {v : Value} (hv : vs[j]? = some v) : w.cell? ⟨g, o + j, none⟩ = some v := by
  have := h j v hv
  rwa [add_plain] at this
/-- 0 & y -/
theorem ns_and0 {t t' : TypeId} {x y : Operand} {a b : Int} (ho : ops[i]? = some ⟨d, .binOp .and t x y t', ty, ps, af, gd⟩) (hw : Region.wanted ⟨d, .binOp .and t x y t', ty, ps, af, gd⟩ (yieldS ops σ) = true)
    (hx : evS σ x = .int .i64 a) (hy : evS σ y = .int .i64 b) (ha : a = 0) (h : NetS P ops Q rest held (updO σ d (.int .i64 0)) w) : NetS P ops Q (.cons ⟨i, 0, kp⟩ rest) held σ w :=
  ns_val _ ho hw (fun w => by
    subst ha
    have h1 : IntKind.i64.wrap 0 = 0 := by rw [IntKind.wrap_i64]; omega
    simp [execOp, hx, hy, eqGuard, binOp, Op.intBits, h1]) h
/-- x[lo:hi] of a slice -/
theorem ns_sliceLH {t E : TypeId} {sz : Nat} {x lo hi : Operand} {a : Option Addr} {n c : Nat} {k k2 : IntKind} {m m2 : Int} (j j2 : Nat) (hT : sliceT P t E sz = true) (ho : ops[i]? = some ⟨d, .slice t x (some lo) (some hi) none, ty, ps, af, gd⟩) (hw : Region.wanted ⟨d, .slice t x (some lo) (some hi) none, ty, ps, af, gd⟩ (yieldS ops σ) = true)
    (hx : evS σ x = .slice a n c) (hlo : evS σ lo = .int k m) (hhi : evS σ hi = .int k2 m2) (hm : m = (j : Int)) (hm2 : m2 = (j2 : Int)) (hj : j ≤ j2) (hj2 : j2 ≤ c)
    (h : NetS P ops Q rest held (updO σ d (.slice (if c = j then a else a.map (·.add (j * sz))) (j2 - j) (c - j))) w) : NetS P ops Q (.cons ⟨i, 0, kp⟩ rest) held σ w := by
  obtain ⟨hu, inf, hinf, rfl⟩ := sliceT_spec hT
  refine ns_val _ ho hw (fun w => ?_) h
  simp [execOp, hx, hlo, hhi, hm, hm2, Instr.sliceAt, Instr.slice, Instr.sliceBounds, run_underlying hu, run_sliceBound _ _ _ _ hj, run_sliceBound _ _ _ _ hj2, run_sizeOf' hinf]
/-- a list with nothing in it -/
theorem ns_lit0 {t E : TypeId} {sz : Nat} (hT : sliceT P t E sz = true)
    (hs : St w0 H w) (ho : ops[i]? = some ⟨d, .buildSlice t 0 #[], ty, ps, af, gd⟩) (hw : Region.wanted ⟨d, .buildSlice t 0 #[], ty, ps, af, gd⟩ (yieldS ops σ) = true)
    (h : ∀ b w', St w0 (Arr E sz (.slice (some ⟨b, 0, none⟩) 0 0) 0 [] * H) w' → Ext w w' → keepAll held kp w' ∧ NetS P ops Q rest held (updO σ d (.slice (some ⟨b, 0, none⟩) 0 0)) w') : NetS P ops Q (.cons ⟨i, 2, kp⟩ rest) held σ w := by
  obtain ⟨hu, inf, hinf, rfl⟩ := sliceT_spec hT
  refine ns_eff ho hw ?_
  have hs2 := hs.alloc (.cells #[] E (0, 0))
  have := h _ _ (St.mk_arr' (n := 0) (cap := 0) (xs := []) (sz := inf.size) hs2 (Nat.le_refl _) (Nat.zero_le _) (by simp) (by simp)) (ext_alloc w _)
  simp only [execOp, Instr.buildSlice, Sem.run_bind, run_underlying hu, Result.andThen_ok, run_sizeOf' hinf]
  simp [Instr.fill, newRow, Eff]
  rw [show (Array.map (fun _ => (default : Value)) (Array.range 0)) = #[] from by simp]
  exact this
theorem ns_neg {t : TypeId} {x : Operand} {a : Int} (ho : ops[i]? = some ⟨d, .unOp .neg t x, ty, ps, af, gd⟩) (hw : Region.wanted ⟨d, .unOp .neg t x, ty, ps, af, gd⟩ (yieldS ops σ) = true)
    (hx : evS σ x = .int .i64 a) (h1 : -9223372036854775808 ≤ -a) (h2 : -a ≤ 9223372036854775807) (h : NetS P ops Q rest held (updO σ d (.int .i64 (-a))) w) : NetS P ops Q (.cons ⟨i, 0, kp⟩ rest) held σ w :=
  ns_val _ ho hw (fun w => by
    have : IntKind.i64.wrap (-a) = -a := by rw [IntKind.wrap_i64]; omega
    simp [execOp, hx, Op.unary, Op.intArith, this]) h
theorem ns_max {x y : Operand} {ats : Array TypeId} {a b : Int} (ho : ops[i]? = some ⟨d, .call { callee := .builtin .max, args := #[x, y], argTypes := ats }, ty, ps, af, gd⟩) (hw : Region.wanted ⟨d, .call { callee := .builtin .max, args := #[x, y], argTypes := ats }, ty, ps, af, gd⟩ (yieldS ops σ) = true)
    (hx : evS σ x = .int .i64 a) (hy : evS σ y = .int .i64 b) (h : NetS P ops Q rest held (updO σ d (.int .i64 (if b > a then b else a))) w) : NetS P ops Q (.cons ⟨i, 0, kp⟩ rest) held σ w := by
  refine ns_val _ ho hw (fun w => ?_) h
  simp [execOp, resolve, hx, hy, invoke, builtin, Builtin.max_, Builtin.max2]
theorem ns_min {x y : Operand} {ats : Array TypeId} {a b : Int} (ho : ops[i]? = some ⟨d, .call { callee := .builtin .min, args := #[x, y], argTypes := ats }, ty, ps, af, gd⟩) (hw : Region.wanted ⟨d, .call { callee := .builtin .min, args := #[x, y], argTypes := ats }, ty, ps, af, gd⟩ (yieldS ops σ) = true)
    (hx : evS σ x = .int .i64 a) (hy : evS σ y = .int .i64 b) (h : NetS P ops Q rest held (updO σ d (.int .i64 (if b < a then b else a))) w) : NetS P ops Q (.cons ⟨i, 0, kp⟩ rest) held σ w := by
  refine ns_val _ ho hw (fun w => ?_) h
  simp [execOp, resolve, hx, hy, invoke, builtin, Builtin.min_, Builtin.min2]
end
end Go.Wk

namespace Go.Proofs.Ytnnembkganlbpaa
open Go Go.Wk Go.Net Go.RowKit
theorem ar_60 : arrT Try.prog 60 8 59 1 = true := by kernel_rfl
theorem ud_45 : (match Try.prog.underlying 45 with | some (.struct fs) => fs.toList.map (fun f => (f.name != "_", f.type, f.offset)) | _ => []) = [(true, 2, 0), (true, 2, 1)] := by kernel_rfl
theorem si_45 : Try.prog.stoodInHeld 45 = false := by kernel_rfl
theorem un_2 : Try.prog.underlying 2 = some (.int .i64) := by kernel_rfl
theorem part2 (cs : Array Value) (o : Nat) (v : Value) (h : cs[o]? = some v) (w : World) : (part 2 cs o).run Try.prog w = .ok v w := by
  have : (isAgg 2).run Try.prog w = .ok false w := by
    simp [isAgg, run_underlying un_2]
  simp [part, this, h]
theorem run_eq2 (a b : Int) (m : Nat) (w : World) : (Op.equalIn (m + 1) 2 (.int .i64 a) (.int .i64 b)).run Try.prog w = .ok (a == b) w := by
  rw [Op.equalIn]
  simp [run_underlying un_2]
theorem run_eq45 (a b c e : Int) (w : World) : (Op.equal 45 (.agg #[.int .i64 a, .int .i64 b]) (.agg #[.int .i64 c, .int .i64 e])).run Try.prog w = .ok (a == c && b == e) w := by
  have hu := ud_45
  split at hu
  · rename_i fs hf
    obtain ⟨fs⟩ := fs
    rcases fs with _ | ⟨f1, _ | ⟨f2, _ | ⟨f3, fs⟩⟩⟩
    · simp at hu
    · simp at hu
    · simp only [List.map_cons, List.map_nil, List.cons.injEq, Prod.mk.injEq, and_true, bne_iff_ne, ne_eq] at hu
      obtain ⟨⟨n1, t1, o1⟩, n2, t2, o2⟩ := hu
      unfold Op.equal Op.maxDepth
      rw [Op.equalIn]
      have p1 : ∀ (x y : Int) (w : World), (part 2 #[.int .i64 x, .int .i64 y] 0).run Try.prog w = .ok (.int .i64 x) w := fun x y w => part2 _ 0 _ rfl w
      have p2 : ∀ (x y : Int) (w : World), (part 2 #[.int .i64 x, .int .i64 y] 1).run Try.prog w = .ok (.int .i64 y) w := fun x y w => part2 _ 1 _ rfl w
      have q := fun x y => run_eq2 x y 9998 w
      simp [run_underlying hf, n1, n2, t1, t2, o1, o2, p1, p2, q]
      by_cases h1 : a = c
      · by_cases h2 : b = e <;> simp [h1, h2]
      · simp [h1]
    · simp at hu
  · cases hu
theorem ns_ne45 {ops : Array Oper} {Q : Slots → World → Prop} {σ : Slots} {w : World} {rest : Tre} {held : Nat → World → Prop} {i : Nat} {kp : List Nat} {d : Option Tmp} {ty : TypeId} {ps : String} {af : Array Edge} {gd : Option (Nat × Bool)}
    {t' : TypeId} {x y : Operand} {a b c e : Int} (r : Bool) (ho : ops[i]? = some ⟨d, .binOp .neq 45 x y t', ty, ps, af, gd⟩) (hw : Region.wanted ⟨d, .binOp .neq 45 x y t', ty, ps, af, gd⟩ (yieldS ops σ) = true)
    (hx : evS σ x = .agg #[.int .i64 a, .int .i64 b]) (hy : evS σ y = .agg #[.int .i64 c, .int .i64 e]) (hr : (!(a == c && b == e)) = r) (h : NetS Try.prog ops Q rest held (updO σ d (.bool r)) w) : NetS Try.prog ops Q (.cons ⟨i, 0, kp⟩ rest) held σ w :=
  ns_val _ ho hw (fun w => by
    subst hr
    simp only [execOp, hx, hy, eqGuard, binOp]
    simp [run_eq45]) h
end Go.Proofs.Ytnnembkganlbpaa
