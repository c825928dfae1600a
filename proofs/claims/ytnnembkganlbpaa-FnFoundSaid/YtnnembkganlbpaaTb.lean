/- A whole tree in memory: degree, length, root, context; over the list that it holds. -/
import Derived.Test.YtnnembkganlbpaaW9
namespace Go.Proofs.Ytnnembkganlbpaa
open Go Go.Sl Go.Net Go.Wk Go.Bt Go.RowKit

def Good (d h : Nat) (t : Tr) (l : List It) : Prop := Ok (d - 1) (2 * d - 1) h t ∧ t.its.length ≤ 2 * d - 1 ∧ flat h t = l ∧ Srt l ∧ (h ≠ 0 → 1 ≤ t.its.length)
def BtN (c d b : Nat) : HProp := pts b (.cells #[.int .i64 d, .int .i64 0, .pointer none, ptr c] 87 (0, 0))
def BtT (c d b n h : Nat) (t : Tr) (rb : Nat) : HProp := pts b (.cells #[.int .i64 d, .int .i64 n, ptr rb, ptr c] 87 (0, 0)) * Tp c h t rb
/-- the tree at b, of degree d, holds the list l -/
def BT (c d b : Nat) (l : List It) : HProp := ex fun o : Option (Nat × Tr × Nat) => match o with
  | none => pu (l = []) * BtN c d b
  | some (h, t, rb) => pu (Good d h t l) * BtT c d b l.length h t rb
theorem bt_nil (c d b : Nat) : Ent (BtN c d b) (BT c d b []) := fun x hx => ⟨none, by
  show (pu (([] : List It) = []) * BtN c d b) x
  rw [pu_true rfl]; exact hx⟩
theorem bt_tree {c d b h rb n : Nat} {t : Tr} {l : List It} (hg : Good d h t l) (hn : n = l.length) : Ent (pts b (.cells #[.int .i64 d, .int .i64 n, ptr rb, ptr c] 87 (0, 0)) * Tp c h t rb) (BT c d b l) := fun x hx => ⟨some (h, t, rb), by
  show (pu (Good d h t l) * BtT c d b l.length h t rb) x
  rw [pu_true hg]; subst hn; exact hx⟩
theorem St.bt {w0 w : World} {c d b : Nat} {l : List It} {F : HProp} (hs : St w0 (BT c d b l * F) w) :
    (l = [] ∧ St w0 (BtN c d b * F) w) ∨ ∃ h t rb, Good d h t l ∧ St w0 (pts b (.cells #[.int .i64 d, .int .i64 l.length, ptr rb, ptr c] 87 (0, 0)) * (Tp c h t rb * F)) w := by
  obtain ⟨o, hs⟩ := St.ex hs
  match o with
  | none => exact .inl hs.pu
  | some (h, t, rb) =>
    have := hs.pu
    refine .inr ⟨h, t, rb, this.1, ?_⟩
    have h2 := this.2
    unfold BtT at h2
    rw [mul_assoc'] at h2
    exact h2
theorem good_put {d h h2 : Nat} {t t2 : Tr} {x : It} {l : List It} (hg : Good d h t l) (h1 : Ok (d - 1) (2 * d - 1) h2 t2) (hl : t2.its.length ≤ 2 * d - 1) (hf : flat h2 t2 = put l x) (hn : h2 ≠ 0 → 1 ≤ t2.its.length) : Good d h2 t2 (put l x) :=
  ⟨h1, hl, hf, srt_put hg.2.2.2.1 x, hn⟩
/-- a root that is full is cut in two below a new root -/
theorem root_cut {d h : Nat} {t : Tr} {y : It} {l : List It} (hd : 2 ≤ d) (hg : Good d h t l) (hfull : t.its.length = 2 * d - 1) (hy : t.its[d - 1]? = some y) : Good d (h + 1) (.mk [y] [cutL t (d - 1), cutR t (d - 1)]) l := by
  obtain ⟨g1, g2, g3, g4, g5⟩ := hg
  have hc := cut_ok g1 (show d - 1 < t.its.length by omega)
  have e1 : (cutL t (d - 1)).its.length = d - 1 := by show (t.its.take (d - 1)).length = _; rw [List.length_take]; omega
  have e2 : (cutR t (d - 1)).its.length = d - 1 := by show (t.its.drop (d - 1 + 1)).length = _; rw [List.length_drop]; omega
  refine ⟨⟨rfl, fun k hk => ?_⟩, by show 1 ≤ _; omega, ?_, g4, fun _ => Nat.le_refl 1⟩
  · have hk : k ∈ [cutL t (d - 1), cutR t (d - 1)] := hk
    simp at hk
    rcases hk with rfl | rfl
    · exact ⟨by omega, by omega, hc.1⟩
    · exact ⟨by omega, by omega, hc.2⟩
  · rw [flat_mk, ← g3, cut_flat g1 hy]
    show flat h (cutL t (d - 1)) ++ (y :: (flat h (cutR t (d - 1)) ++ [])) = _
    rw [List.append_nil]
/-- a root without items gives way to its kid -/
theorem root_drop {d h : Nat} {t k : Tr} {l : List It} (hd : 2 ≤ d) (hO : Ok (d - 1) (2 * d - 1) (h + 1) t) (h0 : t.its = []) (hk : t.kids[0]? = some k) (hf : flat (h + 1) t = l) (hS : Srt l) : Good d h k l := by
  have hko := kid_ok hO hk
  have hl := hO.1
  rw [h0] at hl
  obtain ⟨k2, e⟩ : ∃ k2, t.kids = [k2] := by
    match hh : t.kids, hl with
    | [k2], _ => exact ⟨k2, rfl⟩
  rw [e] at hk
  cases hk
  refine ⟨hko.2.2, hko.2.1, ?_, hS, fun _ => by omega⟩
  rw [← hf]
  show _ = weave t.its (t.kids.map (flat h))
  rw [h0, e]
  exact (weave_one _).symm
end Go.Proofs.Ytnnembkganlbpaa
