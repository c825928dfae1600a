/- The law FnEnds: for every input it returns true, and what it was handed reads as it did. No condition. -/
import Derived.Test.YtnnembkganlbpaaW27
import Derived.Test.YtnnembkganlbpaaFi
import Derived.Test.YtnnembkganlbpaaFc
namespace Go.Proofs.Ytnnembkganlbpaa
open Go Go.Sl Go.Wk Go.Bt Go.ChangeShapes Go.WideShapes Go.ChangeAt Go.RowKit

set_option maxRecDepth 100000 in
theorem fnEnds_lifted (os : Os) (started : os.Started) (H : Type) (enc : TypeId × Value → H) :
    ReturnsInHanded {} Try.checked os 9 .any (Rows.fnEndsSpec.pre6 enc Try.prog Try.f9 Rows.fnEndsRow.domain false) (Rows.fnEndsSpec.post enc Try.prog Try.f9 false true false false) := by
  refine returnsInHanded_of_change (C := Try.checked) Try.own started (by kernel_rfl) Try.func9
    (ChangeSpec.witness6 (enc := enc) (C := Try.checked) false ⟨#[], #[.int .i64 0, .slice none 0 0], []⟩ 8 (by kernel_rfl) (by kernel_rfl) (by kernel_rfl) (by kernel_rfl)) ?_
  intro W b0 args ds gs before hval0 hW _ _
  have hval : ∀ (j : Nat) t v, Try.f9.params[j]? = some t → args[j]? = some v → Value.okWide Try.prog W .any b0 t v := hval0
  have hW' := hW
  obtain ⟨p, q, hA0, hV, rfl, hfz, hnd⟩ := hW
  have hA : DataW.TrodAll enc Try.prog W 0 (fun _ => true) true Try.f9.params.toList args.toList ds p := hA0
  rw [Try.params9] at hA hval
  obtain ⟨v0, v1, d0, d1, p0, p1, rfl, rfl, rfl, h0, h1⟩ := trodAll_two hA
  obtain ⟨rfl, rfl⟩ := trodVars_none hV
  obtain ⟨a0, rfl, rfl, rfl, w0⟩ := open_int Try.underlying2 (hval 0 2 v0 rfl rfl) h0
  obtain ⟨xs1, hx1⟩ := open_ops (hval 1 24 v1 rfl rfl) h1
  refine (f9_ok (base (heapOf W)) v1 xs1 a0 hx1 W 1 W (st_base W)).mono fun e W' h => ?_
  obtain ⟨v, he, hs⟩ := h
  exact ⟨v, he, law_post (ts := [2, 24]) hW' rfl rfl (by
    intro t ht
    simp only [List.mem_cons, List.not_mem_nil, or_false] at ht
    rcases ht with rfl | rfl
    · exact ty_2
    · exact ty_24) rfl rfl rfl rfl hs⟩
theorem fnEnds_k1 : (Rows.fnEndsRow.wf (OpenSpec.ofChange Rows.fnEndsSpec)) = true := by kernel_rfl
theorem fnEnds_k4 : (Try.f9.params.all (Try.prog.readableRec ·)) = true := by kernel_rfl
theorem fnEnds_k5 : (namedTie Try.prog Rows.fnEndsRow.named Rows.fnEndsSpec.vars) = true := by kernel_rfl
theorem fnEnds_k6 : ((Rows.fnEndsRow.stops == [])) = true := by kernel_rfl
theorem fnEnds_k8 : ((Rows.fnEndsRow.knobs == [])) = true := by kernel_rfl
theorem fnEnds_k10 : ((Rows.fnEndsRow.inPlace == Try.prog.inPlace 9)) = true := by kernel_rfl
theorem fnEnds_k11 : ((Rows.fnEndsRow.unfollowed == Try.prog.unfollowed 9)) = true := by kernel_rfl
theorem fnEnds_k12 : ((Rows.fnEndsRow.recurses == Try.prog.recurses 9)) = true := by kernel_rfl
theorem fnEnds_k13 : ((Rows.fnEndsRow.named == Try.prog.varsNamed 9)) = true := by kernel_rfl
theorem fnEnds_k14 : ((Rows.fnEndsRow.maps == (Try.f9.params.toList ++ Rows.fnEndsSpec.plain.varTypes Try.prog).any (Try.prog.mapsRec ·))) = true := by kernel_rfl
theorem fnEnds_k15 : ((Rows.fnEndsRow.ifaces == (Try.f9.params.toList ++ Rows.fnEndsSpec.plain.varTypes Try.prog).any (Try.prog.ifacesRec ·))) = true := by kernel_rfl
theorem fnEnds_k16 : ((Rows.fnEndsRow.mapsOut == Try.prog.mapsAmong Try.f9.resultTypes.toList)) = true := by kernel_rfl
theorem fnEnds_k17 : ((Rows.fnEndsRow.loops == (Try.f9.params.toList ++ Rows.fnEndsSpec.plain.varTypes Try.prog).any (Try.prog.loopsFrom ·))) = true := by kernel_rfl
theorem fnEnds_k17b : ((Rows.fnEndsRow.wideKeys == (Try.f9.params.toList ++ Rows.fnEndsSpec.plain.varTypes Try.prog ++ Try.f9.resultTypes.toList).any (Try.prog.wideKeysFrom ·))) = true := by kernel_rfl
theorem fnEnds_k18 : (Rows.fnEndsSpec.vars.all (Try.prog.varReadable ·)) = true := by kernel_rfl
theorem fnEnds_k19 : (Try.f9.resultTypes.all (fun t => Try.prog.readableRec t && decide (t < Try.prog.types.size))) = true := by kernel_rfl
theorem fnEnds_k20 : ((Rows.fnEndsRow.ifacesOut == Try.f9.resultTypes.toList.any (Try.prog.ifacesRec ·))) = true := by kernel_rfl
theorem fnEnds_k21 : ((Rows.fnEndsRow.loopsOut == Try.f9.resultTypes.toList.any (Try.prog.loopsFrom ·))) = true := by kernel_rfl
theorem fnEnds_k23 : (Rows.fnEndsRow.shortTexts.isNone) = true := by kernel_rfl
theorem fnEnds_k25 : ((Rows.fnEndsRow.kinds == (if Rows.fnEndsRow.domain.isEmpty then [] else Try.f9.params.toList.map fun t => match Try.prog.underlying t with | some (.int k) => some k | _ => none))) = true := by kernel_rfl
theorem fnEnds_k26 : ((Rows.fnEndsRow.pinned == Rows.fnEndsRow.pinnedBy)) = true := by kernel_rfl
theorem fnEnds_k27 : ((Rows.fnEndsRow.veiled == (Try.f9.params.toList ++ Rows.fnEndsSpec.plain.varTypes Try.prog ++ Try.f9.resultTypes.toList).any (Try.prog.veiledRec ·))) = true := by kernel_rfl
theorem fnEnds_k28 : (Rows.fnEndsRow.veiledFits Try.prog Try.f9.params.toList (Try.f9.params.toList ++ Rows.fnEndsSpec.plain.varTypes Try.prog ++ Try.f9.resultTypes.toList)) = true := by kernel_rfl
set_option maxRecDepth 100000 in
theorem fnEnds_closed : joinedFacts Try.prog 9 Try.f9 Rows.fnEndsSpec Rows.fnEndsRow = true := by
  unfold joinedFacts
  exact (and_mk (and_mk (and_mk (and_mk (and_mk (and_mk (and_mk (and_mk (and_mk (and_mk (and_mk (and_mk (and_mk (and_mk (and_mk (and_mk (and_mk (and_mk (and_mk (and_mk (and_mk (and_mk (and_mk (and_mk (and_mk (and_mk (and_mk (and_mk (and_mk (and_mk (and_mk fnEnds_k1 k2) k3) fnEnds_k4) fnEnds_k5) fnEnds_k6) k7) fnEnds_k8) k9) fnEnds_k10) fnEnds_k11) fnEnds_k12) fnEnds_k13) fnEnds_k14) fnEnds_k15) fnEnds_k16) fnEnds_k17) fnEnds_k17b) fnEnds_k18) fnEnds_k19) fnEnds_k20) fnEnds_k21) k22) fnEnds_k23) k23b) k24) k24b) k24c) fnEnds_k25) fnEnds_k26) fnEnds_k27) fnEnds_k28)
theorem fnEnds_holds : Rows.FnEndsSaid :=
  OpenClaim.holds_of_wide 9 Try.f9 rfl rfl rfl rfl rfl rfl rfl ⟨rfl, rfl, rfl, rfl, rfl⟩ rfl rfl rfl rfl rfl (by kernel_rfl) Try.func9 fnEnds_closed
    (of_decide_eq_true (by kernel_rfl)) (by unfold Func.isWrapper; rw [if_neg (of_decide_eq_false (by kernel_rfl))]; exact ⟨rfl, rfl⟩)
    (fun os started H enc _ => fnEnds_lifted os started H enc)
end Go.Proofs.Ytnnembkganlbpaa
