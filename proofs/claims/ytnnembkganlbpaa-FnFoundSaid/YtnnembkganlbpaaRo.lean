/- Rules for building a struct. Over any program. -/
import Derived.Test.YtnnembkganlbpaaRn
namespace Go.Wk
open Go Go.Sl Go.Net Go.RowKit
section
variable {P : Program} {ops : Array Oper} {Q : Slots → World → Prop} {σ : Slots} {w w0 : World} {H : HProp} {rest : Tre} {held : Nat → World → Prop} {i : Nat} {kp : List Nat}
variable {d : Option Tmp} {ty : TypeId} {ps : String} {af : Array Edge} {gd : Option (Nat × Bool)}
/-- the places of a struct's fields: offset and size -/
def placesOf (P : Program) (t : TypeId) : Option (List (Nat × Nat)) := match P.underlying t with
  | some (.struct fs) => if fs.toList.all (fun f => P.cellsOf f.type != 0) then some (fs.toList.map fun f => (f.offset, P.cellsOf f.type)) else none
  | _ => none
theorem run_places (fs : List Field) (h : fs.all (fun f => P.cellsOf f.type != 0) = true) (w : World) : (fs.mapM (m := Sem) fun f => Prod.mk f.offset <$> sizeOf f.type).run P w = .ok (fs.map fun f => (f.offset, P.cellsOf f.type)) w := by
  induction fs with
  | nil => simp
  | cons f fs ih =>
    simp only [List.all_cons, Bool.and_eq_true, bne_iff_ne, ne_eq] at h
    simp [run_sizeOf rfl h.1, ih h.2]
theorem ns_build {t : TypeId} {parts : Array (Nat × Operand)} {pl : List (Nat × Nat)} {zc : Array Value} (ps' : List (Nat × Value)) (cells : Array Value) (hp : placesOf P t = some pl) (hz : zeroC P t = some zc)
    (ho : ops[i]? = some ⟨d, .build t parts, ty, ps, af, gd⟩) (hw : Region.wanted ⟨d, .build t parts, ty, ps, af, gd⟩ (yieldS ops σ) = true)
    (hf : (parts.toList.map fun p => (p.1, evS σ p.2)) = ps') (hc : Instr.fill (fun i => pl.toArray[i]?) zc ps' = some cells)
    (h : NetS P ops Q rest held (updO σ d (.agg cells)) w) : NetS P ops Q (.cons ⟨i, 0, kp⟩ rest) held σ w := by
  obtain ⟨z, hz', rfl⟩ := zeroC_spec hz
  unfold placesOf at hp
  refine ns_val _ ho hw (fun w => ?_) h
  cases hu : P.underlying t with
  | none => rw [hu] at hp; cases hp
  | some de =>
    rw [hu] at hp
    cases de <;> simp only [reduceCtorEq] at hp
    case struct fs =>
      split at hp
      · rename_i hall
        cases hp
        have hm : (fs.mapM (m := Sem) fun f => Prod.mk f.offset <$> sizeOf f.type).run P w = .ok (fs.toList.map fun f => (f.offset, P.cellsOf f.type)).toArray w := by
          rw [Array.mapM_eq_mapM_toList]
          simp [run_places fs.toList hall w]
        have hc2 : Instr.fill (fun x => Option.map (fun f => (f.offset, P.cellsOf f.type)) fs[x]?) z.cells (parts.toList.map fun x => (x.1, evS σ x.2)) = some cells := by rw [hf]; simpa using hc
        simp [execOp, Instr.build, run_zero hz', run_underlying hu, hm, hc2]
      · cases hp
/-- a slice of room for n, none in it -/
theorem ns_make0 {t E : TypeId} {sz n : Nat} {z : Value} {by' : Nat} {l c : Operand} {k k2 : IntKind} (hT : sliceT P t E sz = true) (hz : zeroOf P E = some z) (hby : P.bytesOf E = by') (hb : by' * n ≤ 140737488355328) (hn : n ≠ 0) (hsz : sz ≠ 0)
    (hs : St w0 H w) (ho : ops[i]? = some ⟨d, .makeSlice t l c, ty, ps, af, gd⟩) (hw : Region.wanted ⟨d, .makeSlice t l c, ty, ps, af, gd⟩ (yieldS ops σ) = true) (hl : evS σ l = .int k 0) (hc : evS σ c = .int k2 n) (h63 : n ≤ 9223372036854775807)
    (h : ∀ b cs w', cs.size = n * sz → St w0 (pts b (.cells cs E (0, 0)) * H) w' → Ext w w' → keepAll held kp w' ∧ NetS P ops Q rest held (updO σ d (.slice (some ⟨b, 0, none⟩) 0 n)) w') : NetS P ops Q (.cons ⟨i, 2, kp⟩ rest) held σ w := by
  obtain ⟨hu, inf, hinf, rfl⟩ := sliceT_spec hT
  have hzi := info_zero hinf hz
  have hbi : inf.bytes = by' := by rw [← hby]; unfold Program.bytesOf; rw [hinf]; rfl
  subst hbi
  refine ns_eff ho hw ?_
  have wl : IntKind.i64.wrap 0 = 0 := by rw [IntKind.wrap_i64]; omega
  have wc : IntKind.i64.wrap (n : Int) = n := by rw [IntKind.wrap_i64]; omega
  have hb' : n * inf.bytes ≤ 140737488355328 := by rw [Nat.mul_comm]; exact hb
  have n2 : ¬ (281474976710656 < (inf.bytes : Int) * (n : Int)) := by
    have : ((inf.bytes * n : Nat) : Int) ≤ 140737488355328 := by omega
    rw [Int.natCast_mul] at this; omega
  have n1 : ¬ ((n : Int) < 0) := by omega
  have hnn : ¬ (n = 0 ∨ inf.size = 0) := by omega
  have hnn2 : ¬ (n * inf.size = 0) := by simpa [Nat.mul_eq_zero] using hnn
  have h2 := h w.heap.size ((Array.range (n * inf.size)).map (z.cells[· % z.cells.size]!)) _ (by simp) (hs.alloc (.cells ((Array.range (n * inf.size)).map (z.cells[· % z.cells.size]!)) E (0, 0))) (ext_alloc w _)
  have hr : (execOp (evS σ) ⟨d, .makeSlice t l c, ty, ps, af, gd⟩).run P w = .ok (.value (.slice (some ⟨w.heap.size, 0, none⟩) 0 n)) (w.alloc (.cells ((Array.range (n * inf.size)).map (z.cells[· % z.cells.size]!)) E (0, 0))) := by
    simp [execOp, hl, hc, Instr.makeSlice, run_underlying hu, asInt, asIntOf, typeInfo, hinf, sizeOf, zeroValue, hzi, wl, wc, n1, n2, hnn2, newRow, askRoom, roomBytes]
  rw [hr]
  exact h2
end
end Go.Wk
