/- The law FnCut: for every input it returns true, and what it was handed reads as it did. No condition. -/
import Derived.Test.YtnnembkganlbpaaW25
import Derived.Test.YtnnembkganlbpaaFi
import Derived.Test.YtnnembkganlbpaaFc
namespace Go.Proofs.Ytnnembkganlbpaa
open Go Go.Sl Go.Wk Go.Bt Go.ChangeShapes Go.WideShapes Go.ChangeAt Go.RowKit

set_option maxRecDepth 100000 in
theorem fnCut_lifted (os : Os) (started : os.Started) (H : Type) (enc : TypeId × Value → H) :
    ReturnsInHanded {} Try.checked os 6 .any (Rows.fnCutSpec.pre6 enc Try.prog Try.f6 Rows.fnCutRow.domain false) (Rows.fnCutSpec.post enc Try.prog Try.f6 false true false false) := by
  refine returnsInHanded_of_change (C := Try.checked) Try.own started (by kernel_rfl) Try.func6
    (ChangeSpec.witness6 (enc := enc) (C := Try.checked) false ⟨#[], #[.int .i64 0, .slice none 0 0, .int .i64 0], []⟩ 8 (by kernel_rfl) (by kernel_rfl) (by kernel_rfl) (by kernel_rfl)) ?_
  intro W b0 args ds gs before hval0 hW _ _
  have hval : ∀ (j : Nat) t v, Try.f6.params[j]? = some t → args[j]? = some v → Value.okWide Try.prog W .any b0 t v := hval0
  have hW' := hW
  obtain ⟨p, q, hA0, hV, rfl, hfz, hnd⟩ := hW
  have hA : DataW.TrodAll enc Try.prog W 0 (fun _ => true) true Try.f6.params.toList args.toList ds p := hA0
  rw [Try.params6] at hA hval
  obtain ⟨v0, v1, v2, d0, d1, d2, p0, p1, p2, rfl, rfl, rfl, h0, h1, h2⟩ := trodAll_three hA
  obtain ⟨rfl, rfl⟩ := trodVars_none hV
  obtain ⟨a0, rfl, rfl, rfl, w0⟩ := open_int Try.underlying2 (hval 0 2 v0 rfl rfl) h0
  obtain ⟨xs1, hx1⟩ := open_ops (hval 1 24 v1 rfl rfl) h1
  obtain ⟨a2, rfl, rfl, rfl, w2⟩ := open_int Try.underlying2 (hval 2 2 v2 rfl rfl) h2
  refine (f6_ok (base (heapOf W)) v1 xs1 a0 a2 hx1 W 1 W (st_base W)).mono fun e W' h => ?_
  obtain ⟨v, he, hs⟩ := h
  exact ⟨v, he, law_post (ts := [2, 24, 2]) hW' rfl rfl (by
    intro t ht
    simp only [List.mem_cons, List.not_mem_nil, or_false] at ht
    rcases ht with rfl | rfl | rfl
    · exact ty_2
    · exact ty_24
    · exact ty_2) rfl rfl rfl rfl hs⟩
theorem fnCut_k1 : (Rows.fnCutRow.wf (OpenSpec.ofChange Rows.fnCutSpec)) = true := by kernel_rfl
theorem fnCut_k4 : (Try.f6.params.all (Try.prog.readableRec ·)) = true := by kernel_rfl
theorem fnCut_k5 : (namedTie Try.prog Rows.fnCutRow.named Rows.fnCutSpec.vars) = true := by kernel_rfl
theorem fnCut_k6 : ((Rows.fnCutRow.stops == [])) = true := by kernel_rfl
theorem fnCut_k8 : ((Rows.fnCutRow.knobs == [])) = true := by kernel_rfl
theorem fnCut_k10 : ((Rows.fnCutRow.inPlace == Try.prog.inPlace 6)) = true := by kernel_rfl
theorem fnCut_k11 : ((Rows.fnCutRow.unfollowed == Try.prog.unfollowed 6)) = true := by kernel_rfl
theorem fnCut_k12 : ((Rows.fnCutRow.recurses == Try.prog.recurses 6)) = true := by kernel_rfl
theorem fnCut_k13 : ((Rows.fnCutRow.named == Try.prog.varsNamed 6)) = true := by kernel_rfl
theorem fnCut_k14 : ((Rows.fnCutRow.maps == (Try.f6.params.toList ++ Rows.fnCutSpec.plain.varTypes Try.prog).any (Try.prog.mapsRec ·))) = true := by kernel_rfl
theorem fnCut_k15 : ((Rows.fnCutRow.ifaces == (Try.f6.params.toList ++ Rows.fnCutSpec.plain.varTypes Try.prog).any (Try.prog.ifacesRec ·))) = true := by kernel_rfl
theorem fnCut_k16 : ((Rows.fnCutRow.mapsOut == Try.prog.mapsAmong Try.f6.resultTypes.toList)) = true := by kernel_rfl
theorem fnCut_k17 : ((Rows.fnCutRow.loops == (Try.f6.params.toList ++ Rows.fnCutSpec.plain.varTypes Try.prog).any (Try.prog.loopsFrom ·))) = true := by kernel_rfl
theorem fnCut_k17b : ((Rows.fnCutRow.wideKeys == (Try.f6.params.toList ++ Rows.fnCutSpec.plain.varTypes Try.prog ++ Try.f6.resultTypes.toList).any (Try.prog.wideKeysFrom ·))) = true := by kernel_rfl
theorem fnCut_k18 : (Rows.fnCutSpec.vars.all (Try.prog.varReadable ·)) = true := by kernel_rfl
theorem fnCut_k19 : (Try.f6.resultTypes.all (fun t => Try.prog.readableRec t && decide (t < Try.prog.types.size))) = true := by kernel_rfl
theorem fnCut_k20 : ((Rows.fnCutRow.ifacesOut == Try.f6.resultTypes.toList.any (Try.prog.ifacesRec ·))) = true := by kernel_rfl
theorem fnCut_k21 : ((Rows.fnCutRow.loopsOut == Try.f6.resultTypes.toList.any (Try.prog.loopsFrom ·))) = true := by kernel_rfl
theorem fnCut_k23 : (Rows.fnCutRow.shortTexts.isNone) = true := by kernel_rfl
theorem fnCut_k25 : ((Rows.fnCutRow.kinds == (if Rows.fnCutRow.domain.isEmpty then [] else Try.f6.params.toList.map fun t => match Try.prog.underlying t with | some (.int k) => some k | _ => none))) = true := by kernel_rfl
theorem fnCut_k26 : ((Rows.fnCutRow.pinned == Rows.fnCutRow.pinnedBy)) = true := by kernel_rfl
theorem fnCut_k27 : ((Rows.fnCutRow.veiled == (Try.f6.params.toList ++ Rows.fnCutSpec.plain.varTypes Try.prog ++ Try.f6.resultTypes.toList).any (Try.prog.veiledRec ·))) = true := by kernel_rfl
theorem fnCut_k28 : (Rows.fnCutRow.veiledFits Try.prog Try.f6.params.toList (Try.f6.params.toList ++ Rows.fnCutSpec.plain.varTypes Try.prog ++ Try.f6.resultTypes.toList)) = true := by kernel_rfl
set_option maxRecDepth 100000 in
theorem fnCut_closed : joinedFacts Try.prog 6 Try.f6 Rows.fnCutSpec Rows.fnCutRow = true := by
  unfold joinedFacts
  exact (and_mk (and_mk (and_mk (and_mk (and_mk (and_mk (and_mk (and_mk (and_mk (and_mk (and_mk (and_mk (and_mk (and_mk (and_mk (and_mk (and_mk (and_mk (and_mk (and_mk (and_mk (and_mk (and_mk (and_mk (and_mk (and_mk (and_mk (and_mk (and_mk (and_mk (and_mk fnCut_k1 k2) k3) fnCut_k4) fnCut_k5) fnCut_k6) k7) fnCut_k8) k9) fnCut_k10) fnCut_k11) fnCut_k12) fnCut_k13) fnCut_k14) fnCut_k15) fnCut_k16) fnCut_k17) fnCut_k17b) fnCut_k18) fnCut_k19) fnCut_k20) fnCut_k21) k22) fnCut_k23) k23b) k24) k24b) k24c) fnCut_k25) fnCut_k26) fnCut_k27) fnCut_k28)
theorem fnCut_holds : Rows.FnCutSaid :=
  OpenClaim.holds_of_wide 6 Try.f6 rfl rfl rfl rfl rfl rfl rfl ⟨rfl, rfl, rfl, rfl, rfl⟩ rfl rfl rfl rfl rfl (by kernel_rfl) Try.func6 fnCut_closed
    (of_decide_eq_true (by kernel_rfl)) (by unfold Func.isWrapper; rw [if_neg (of_decide_eq_false (by kernel_rfl))]; exact ⟨rfl, rfl⟩)
    (fun os started H enc _ => fnCut_lifted os started H enc)
end Go.Proofs.Ytnnembkganlbpaa
