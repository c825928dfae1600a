/- More rules: an append that has room, and what walks of whole nodes need. Over any program. -/
import Derived.Test.YtnnembkganlbpaaRm
namespace Go.Wk
open Go Go.Sl Go.Net Go.RowKit
section
variable {P : Program} {ops : Array Oper} {Q : Slots → World → Prop} {σ : Slots} {w w0 : World} {H : HProp} {rest : Tre} {held : Nat → World → Prop} {i : Nat} {kp : List Nat}
variable {d : Option Tmp} {ty : TypeId} {ps : String} {af : Array Edge} {gd : Option (Nat × Bool)}
theorem ns_appR {t E : TypeId} {sz : Nat} {s x : Operand} {g n cap m c : Nat} {cur : Array Value} {F : HProp} {ad : Addr} (news : List Value)
    (hT : sliceT P t E sz = true) (hs : St w0 (pts g (.cells cur E (0, 0)) * F) w) (ho : ops[i]? = some ⟨d, .call { callee := .builtin .append, args := #[s, x], argTypes := #[t, t] }, ty, ps, af, gd⟩)
    (hw : Region.wanted ⟨d, .call { callee := .builtin .append, args := #[s, x], argTypes := #[t, t] }, ty, ps, af, gd⟩ (yieldS ops σ) = true)
    (hsv : evS σ s = .slice (some ⟨g, 0, none⟩) n cap) (hx : evS σ x = .slice (some ad) m c) (hl : news.length = m * sz) (hnews : Cells w ad news) (h1 : ∀ u ∈ news, u.oneCell' = true)
    (hroom : n + m ≤ cap) (hfit : n * sz + news.length ≤ cur.size)
    (h : ∀ w', St w0 (pts g (.cells (splice cur (n * sz) news) E (0, 0)) * F) w' → keepAll held kp w' ∧ NetS P ops Q rest held (updO σ d (.slice (some ⟨g, 0, none⟩) (n + m) cap)) w') : NetS P ops Q (.cons ⟨i, 2, kp⟩ rest) held σ w := by
  obtain ⟨hu, inf, hinf, rfl⟩ := sliceT_spec hT
  refine ns_eff ho hw ?_
  have hr := run_append_room (P := P) w t ty E inf hu hinf g n cap cur hs.pts ad m c news hl hnews h1 hroom hfit
  have : (execOp (evS σ) ⟨d, .call { callee := .builtin .append, args := #[s, x], argTypes := #[t, t] }, ty, ps, af, gd⟩).run P w = .ok (.value (.slice (some ⟨g, 0, none⟩) (n + m) cap)) (w.setRow g (splice cur (n * inf.size) news)) := by
    simp [execOp, resolve, invoke, builtin, hsv, hx, hr, splice]
  rw [this]
  exact h _ (hs.setRow)
theorem ns_conv {s t : TypeId} {x : Operand} {k k' kd : IntKind} {a : Int} (hd : P.underlying t = some (.int kd)) (hu : P.underlying s = some (.int k)) (ho : ops[i]? = some ⟨d, .convert s t x, ty, ps, af, gd⟩)
    (hw : Region.wanted ⟨d, .convert s t x, ty, ps, af, gd⟩ (yieldS ops σ) = true) (hx : evS σ x = .int k' a) (hr : kd.wrap a = a)
    (h : NetS P ops Q rest held (updO σ d (.int kd a)) w) : NetS P ops Q (.cons ⟨i, 0, kp⟩ rest) held σ w :=
  ns_val _ ho hw (fun w => by simp [execOp, hx, convert, run_underlying hd, run_underlying hu, Conv.intToInt, hr]) h
theorem wrapU64_in {x : Int} (h1 : 0 ≤ x) (h2 : x ≤ 18446744073709551615) : IntKind.u64.wrap x = x := by
  simp only [IntKind.wrap, IntKind.bits, IntKind.signed, Bool.false_and]
  simp
  omega
theorem ns_shr1 {t t' : TypeId} {x y : Operand} {k : IntKind} {a : Int} (c : Int) (ho : ops[i]? = some ⟨d, .binOp .shr t x y t', ty, ps, af, gd⟩) (hw : Region.wanted ⟨d, .binOp .shr t x y t', ty, ps, af, gd⟩ (yieldS ops σ) = true)
    (hx : evS σ x = .int .u64 a) (hy : evS σ y = .int k 1) (hc : a.fdiv 2 = c) (h : NetS P ops Q rest held (updO σ d (.int .u64 c)) w) : NetS P ops Q (.cons ⟨i, 0, kp⟩ rest) held σ w :=
  ns_val _ ho hw (fun w => by simp [execOp, hx, hy, eqGuard, binOp, Op.shift, IntKind.bits, hc]) h
theorem ns_fun' {fn : Fn} {first captured : Array Operand} (fs cs : Array Value) (ho : ops[i]? = some ⟨d, .makeFunc fn first captured, ty, ps, af, gd⟩) (hw : Region.wanted ⟨d, .makeFunc fn first captured, ty, ps, af, gd⟩ (yieldS ops σ) = true)
    (hf : first.toList.map (evS σ) = fs.toList) (hc : captured.toList.map (evS σ) = cs.toList) (h : NetS P ops Q rest held (updO σ d (.func fn fs cs)) w) : NetS P ops Q (.cons ⟨i, 0, kp⟩ rest) held σ w := by
  have e1 : first.map (evS σ) = fs := Array.toList_inj.1 (by rw [Array.toList_map, hf])
  have e2 : captured.map (evS σ) = cs := Array.toList_inj.1 (by rw [Array.toList_map, hc])
  exact ns_val _ ho hw (fun w => by simp [execOp, Instr.makeFunc, e1, e2]) h
instance (priority := low) foc1 (H : HProp) : Foc 1 H H := ⟨(one_mul' H).symm⟩
end
end Go.Wk
