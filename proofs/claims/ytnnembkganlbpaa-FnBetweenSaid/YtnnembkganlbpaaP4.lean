/- The law FnBetween: for every input it returns true, and what it was handed reads as it did. No condition. -/
import Derived.Test.YtnnembkganlbpaaW26
import Derived.Test.YtnnembkganlbpaaFi
import Derived.Test.YtnnembkganlbpaaFc
namespace Go.Proofs.Ytnnembkganlbpaa
open Go Go.Sl Go.Wk Go.Bt Go.ChangeShapes Go.WideShapes Go.ChangeAt Go.RowKit

set_option maxRecDepth 100000 in
theorem fnBetween_lifted (os : Os) (started : os.Started) (H : Type) (enc : TypeId × Value → H) :
    ReturnsInHanded {} Try.checked os 4 .any (Rows.fnBetweenSpec.pre6 enc Try.prog Try.f4 Rows.fnBetweenRow.domain false) (Rows.fnBetweenSpec.post enc Try.prog Try.f4 false true false false) := by
  refine returnsInHanded_of_change (C := Try.checked) Try.own started (by kernel_rfl) Try.func4
    (ChangeSpec.witness6 (enc := enc) (C := Try.checked) false ⟨#[], #[.int .i64 0, .slice none 0 0, .int .i64 0, .int .i64 0], []⟩ 8 (by kernel_rfl) (by kernel_rfl) (by kernel_rfl) (by kernel_rfl)) ?_
  intro W b0 args ds gs before hval0 hW _ _
  have hval : ∀ (j : Nat) t v, Try.f4.params[j]? = some t → args[j]? = some v → Value.okWide Try.prog W .any b0 t v := hval0
  have hW' := hW
  obtain ⟨p, q, hA0, hV, rfl, hfz, hnd⟩ := hW
  have hA : DataW.TrodAll enc Try.prog W 0 (fun _ => true) true Try.f4.params.toList args.toList ds p := hA0
  rw [Try.params4] at hA hval
  obtain ⟨v0, v1, v2, v3, d0, d1, d2, d3, p0, p1, p2, p3, rfl, rfl, rfl, h0, h1, h2, h3⟩ := trodAll_four hA
  obtain ⟨rfl, rfl⟩ := trodVars_none hV
  obtain ⟨a0, rfl, rfl, rfl, w0⟩ := open_int Try.underlying2 (hval 0 2 v0 rfl rfl) h0
  obtain ⟨xs1, hx1⟩ := open_ops (hval 1 24 v1 rfl rfl) h1
  obtain ⟨a2, rfl, rfl, rfl, w2⟩ := open_int Try.underlying2 (hval 2 2 v2 rfl rfl) h2
  obtain ⟨a3, rfl, rfl, rfl, w3⟩ := open_int Try.underlying2 (hval 3 2 v3 rfl rfl) h3
  refine (f4_ok (base (heapOf W)) v1 xs1 a0 a2 a3 hx1 W 1 W (st_base W)).mono fun e W' h => ?_
  obtain ⟨v, he, hs⟩ := h
  exact ⟨v, he, law_post (ts := [2, 24, 2, 2]) hW' rfl rfl (by
    intro t ht
    simp only [List.mem_cons, List.not_mem_nil, or_false] at ht
    rcases ht with rfl | rfl | rfl | rfl
    · exact ty_2
    · exact ty_24
    · exact ty_2
    · exact ty_2) rfl rfl rfl rfl hs⟩
theorem fnBetween_k1 : (Rows.fnBetweenRow.wf (OpenSpec.ofChange Rows.fnBetweenSpec)) = true := by kernel_rfl
theorem fnBetween_k4 : (Try.f4.params.all (Try.prog.readableRec ·)) = true := by kernel_rfl
theorem fnBetween_k5 : (namedTie Try.prog Rows.fnBetweenRow.named Rows.fnBetweenSpec.vars) = true := by kernel_rfl
theorem fnBetween_k6 : ((Rows.fnBetweenRow.stops == [])) = true := by kernel_rfl
theorem fnBetween_k8 : ((Rows.fnBetweenRow.knobs == [])) = true := by kernel_rfl
theorem fnBetween_k10 : ((Rows.fnBetweenRow.inPlace == Try.prog.inPlace 4)) = true := by kernel_rfl
theorem fnBetween_k11 : ((Rows.fnBetweenRow.unfollowed == Try.prog.unfollowed 4)) = true := by kernel_rfl
theorem fnBetween_k12 : ((Rows.fnBetweenRow.recurses == Try.prog.recurses 4)) = true := by kernel_rfl
theorem fnBetween_k13 : ((Rows.fnBetweenRow.named == Try.prog.varsNamed 4)) = true := by kernel_rfl
theorem fnBetween_k14 : ((Rows.fnBetweenRow.maps == (Try.f4.params.toList ++ Rows.fnBetweenSpec.plain.varTypes Try.prog).any (Try.prog.mapsRec ·))) = true := by kernel_rfl
theorem fnBetween_k15 : ((Rows.fnBetweenRow.ifaces == (Try.f4.params.toList ++ Rows.fnBetweenSpec.plain.varTypes Try.prog).any (Try.prog.ifacesRec ·))) = true := by kernel_rfl
theorem fnBetween_k16 : ((Rows.fnBetweenRow.mapsOut == Try.prog.mapsAmong Try.f4.resultTypes.toList)) = true := by kernel_rfl
theorem fnBetween_k17 : ((Rows.fnBetweenRow.loops == (Try.f4.params.toList ++ Rows.fnBetweenSpec.plain.varTypes Try.prog).any (Try.prog.loopsFrom ·))) = true := by kernel_rfl
theorem fnBetween_k17b : ((Rows.fnBetweenRow.wideKeys == (Try.f4.params.toList ++ Rows.fnBetweenSpec.plain.varTypes Try.prog ++ Try.f4.resultTypes.toList).any (Try.prog.wideKeysFrom ·))) = true := by kernel_rfl
theorem fnBetween_k18 : (Rows.fnBetweenSpec.vars.all (Try.prog.varReadable ·)) = true := by kernel_rfl
theorem fnBetween_k19 : (Try.f4.resultTypes.all (fun t => Try.prog.readableRec t && decide (t < Try.prog.types.size))) = true := by kernel_rfl
theorem fnBetween_k20 : ((Rows.fnBetweenRow.ifacesOut == Try.f4.resultTypes.toList.any (Try.prog.ifacesRec ·))) = true := by kernel_rfl
theorem fnBetween_k21 : ((Rows.fnBetweenRow.loopsOut == Try.f4.resultTypes.toList.any (Try.prog.loopsFrom ·))) = true := by kernel_rfl
theorem fnBetween_k23 : (Rows.fnBetweenRow.shortTexts.isNone) = true := by kernel_rfl
theorem fnBetween_k25 : ((Rows.fnBetweenRow.kinds == (if Rows.fnBetweenRow.domain.isEmpty then [] else Try.f4.params.toList.map fun t => match Try.prog.underlying t with | some (.int k) => some k | _ => none))) = true := by kernel_rfl
theorem fnBetween_k26 : ((Rows.fnBetweenRow.pinned == Rows.fnBetweenRow.pinnedBy)) = true := by kernel_rfl
theorem fnBetween_k27 : ((Rows.fnBetweenRow.veiled == (Try.f4.params.toList ++ Rows.fnBetweenSpec.plain.varTypes Try.prog ++ Try.f4.resultTypes.toList).any (Try.prog.veiledRec ·))) = true := by kernel_rfl
theorem fnBetween_k28 : (Rows.fnBetweenRow.veiledFits Try.prog Try.f4.params.toList (Try.f4.params.toList ++ Rows.fnBetweenSpec.plain.varTypes Try.prog ++ Try.f4.resultTypes.toList)) = true := by kernel_rfl
set_option maxRecDepth 100000 in
theorem fnBetween_closed : joinedFacts Try.prog 4 Try.f4 Rows.fnBetweenSpec Rows.fnBetweenRow = true := by
  unfold joinedFacts
  exact (and_mk (and_mk (and_mk (and_mk (and_mk (and_mk (and_mk (and_mk (and_mk (and_mk (and_mk (and_mk (and_mk (and_mk (and_mk (and_mk (and_mk (and_mk (and_mk (and_mk (and_mk (and_mk (and_mk (and_mk (and_mk (and_mk (and_mk (and_mk (and_mk (and_mk (and_mk fnBetween_k1 k2) k3) fnBetween_k4) fnBetween_k5) fnBetween_k6) k7) fnBetween_k8) k9) fnBetween_k10) fnBetween_k11) fnBetween_k12) fnBetween_k13) fnBetween_k14) fnBetween_k15) fnBetween_k16) fnBetween_k17) fnBetween_k17b) fnBetween_k18) fnBetween_k19) fnBetween_k20) fnBetween_k21) k22) fnBetween_k23) k23b) k24) k24b) k24c) fnBetween_k25) fnBetween_k26) fnBetween_k27) fnBetween_k28)
theorem fnBetween_holds : Rows.FnBetweenSaid :=
  OpenClaim.holds_of_wide 4 Try.f4 rfl rfl rfl rfl rfl rfl rfl ⟨rfl, rfl, rfl, rfl, rfl⟩ rfl rfl rfl rfl rfl (by kernel_rfl) Try.func4 fnBetween_closed
    (of_decide_eq_true (by kernel_rfl)) (by unfold Func.isWrapper; rw [if_neg (of_decide_eq_false (by kernel_rfl))]; exact ⟨rfl, rfl⟩)
    (fun os started H enc _ => fnBetween_lifted os started H enc)
end Go.Proofs.Ytnnembkganlbpaa
