/- A tree in memory: its node, its kids' pointers, and the kids, each a tree one lower. -/
import Derived.Test.YtnnembkganlbpaaW5
import Derived.Test.YtnnembkganlbpaaTe
namespace Go.Proofs.Ytnnembkganlbpaa
open Go Go.Sl Go.Net Go.Wk Go.Bt Go.RowKit

def zero : It := ⟨0, 0⟩
def Tq (c : Nat) : Nat → Tr → Nat → HProp
  | 0 => fun _ _ => 1
  | h + 1 => fun t b => ex fun bs : List Nat => pu (bs.length = t.kids.length) * (NodeP c b t.its bs * stars (List.zipWith (Tq c h) t.kids bs))
/-- a tree of height h at block b -/
def Tp (c h : Nat) (t : Tr) (b : Nat) : HProp := Tq c (h + 1) t b
def Ks (c h : Nat) (kids : List Tr) (bs : List Nat) : HProp := stars (List.zipWith (Tq c h) kids bs)
theorem tree_fold {c h b : Nat} {its : List It} {kids : List Tr} {bs : List Nat} (hl : bs.length = kids.length) : Ent (NodeP c b its bs * Ks c h kids bs) (Tp c h (.mk its kids) b) := fun x hx => ⟨bs, by
  show (pu (bs.length = kids.length) * (NodeP c b its bs * Ks c h kids bs)) x
  rw [pu_true hl]; exact hx⟩
theorem St.tree {w0 w : World} {c h b : Nat} {t : Tr} {F : HProp} (hs : St w0 (Tp c h t b * F) w) : ∃ bs : List Nat, bs.length = t.kids.length ∧ St w0 (NodeP c b t.its bs * (Ks c h t.kids bs * F)) w := by
  obtain ⟨bs, hs⟩ := St.ex (f := fun bs : List Nat => pu (bs.length = t.kids.length) * (NodeP c b t.its bs * stars (List.zipWith (Tq c h) t.kids bs))) hs
  obtain ⟨hl, hs⟩ := hs.pu
  rw [mul_assoc'] at hs
  exact ⟨bs, hl, hs⟩
theorem Ks_nil (c h : Nat) : Ks c h [] [] = 1 := rfl
theorem Ks_at {c h : Nat} {kids : List Tr} {bs : List Nat} {i : Nat} {k : Tr} {x : Nat} (hk : kids[i]? = some k) (hx : bs[i]? = some x) : Ks c h kids bs = Tq c h k x * Ks c h (kids.eraseIdx i) (bs.eraseIdx i) := by
  induction kids generalizing bs i with
  | nil => simp at hk
  | cons k0 kids ih =>
    match bs with
    | [] => simp at hx
    | b0 :: bs =>
      cases i with
      | zero =>
        simp at hk hx; subst hk; subst hx; rfl
      | succ i =>
        simp at hk hx
        show Tq c h k0 b0 * Ks c h kids bs = Tq c h k x * (Tq c h k0 b0 * Ks c h (kids.eraseIdx i) (bs.eraseIdx i))
        rw [ih hk hx, mul_left_comm']
theorem Ks_set {c h : Nat} {kids : List Tr} {bs : List Nat} {i : Nat} (k' : Tr) {x : Nat} (hk : i < kids.length) (hx : bs[i]? = some x) : Ks c h (kids.set i k') bs = Tq c h k' x * Ks c h (kids.eraseIdx i) (bs.eraseIdx i) := by
  rw [Ks_at (i := i) (k := k') (by simp [hk]) hx, List.eraseIdx_set_eq]
theorem Ks_ins {c h : Nat} {kids : List Tr} {bs : List Nat} {i : Nat} (k' : Tr) (r : Nat) (hk : i ≤ kids.length) (hx : i ≤ bs.length) : Ks c h (kids.insertIdx i k') (bs.insertIdx i r) = Tq c h k' r * Ks c h kids bs := by
  rw [Ks_at (i := i) (k := k') (x := r) (by rw [List.getElem?_insertIdx_self]; simp [hk]) (by rw [List.getElem?_insertIdx_self]; simp [hx]), List.eraseIdx_insertIdx_self, List.eraseIdx_insertIdx_self]
theorem Ks_append {c h : Nat} {k1 k2 : List Tr} {b1 b2 : List Nat} (hl : k1.length = b1.length) : Ks c h (k1 ++ k2) (b1 ++ b2) = Ks c h k1 b1 * Ks c h k2 b2 := by
  unfold Ks
  rw [List.zipWith_append hl, stars_append]
theorem flat_mk0 (its : List It) (kids : List Tr) : flat 0 (.mk its kids) = its := rfl
theorem flat_mk (h : Nat) (its : List It) (kids : List Tr) : flat (h + 1) (.mk its kids) = weave its (kids.map (flat h)) := rfl
theorem Tr.eta (t : Tr) : Tr.mk t.its t.kids = t := by cases t; rfl
theorem flat_sub {mn mx h : Nat} {t : Tr} (hO : Ok mn mx h t) : t.its.Sublist (flat h t) := by
  cases h with
  | zero => exact List.Sublist.refl _
  | succ h => exact weave_sub (by rw [List.length_map]; exact hO.1)
theorem srt_its {mn mx h : Nat} {t : Tr} (hO : Ok mn mx h t) (hS : Srt (flat h t)) : Srt t.its := List.Pairwise.sublist (flat_sub hO) hS

/-- what a kid of a tree of height h holds -/
def flk : Nat → Tr → List It
  | 0, _ => []
  | h + 1, t => flat h t
theorem kid_place {mn mx h : Nat} {t : Tr} (hO : Ok mn mx h t) (hS : Srt (flat h t)) {i : Nat} {kid : Tr} (hk : t.kids[i]? = some kid) :
    ∃ A B, flat h t = A ++ (flk h kid ++ B) ∧ (∀ kid', flat h (.mk t.its (t.kids.set i kid')) = A ++ (flk h kid' ++ B)) ∧
      (∀ k, (∀ j y, j < i → t.its[j]? = some y → y.key < k) → ∀ a ∈ A, a.key < k) ∧ (∀ k, (∀ y, t.its[i]? = some y → k < y.key) → ∀ b ∈ B, k < b.key) ∧
      (i = 0 → A = []) ∧ (i = t.its.length → B = []) := by
  cases h with
  | zero => rw [show t.kids = [] from hO] at hk; simp at hk
  | succ h =>
    obtain ⟨A, B, e1, e2, e3, e4, e5, e6⟩ := weave_kid (its := t.its) (fs := t.kids.map (flat h)) (by rw [List.length_map]; exact hO.1) (i := i) (f := flat h kid) (by rw [List.getElem?_map, hk]; rfl)
    refine ⟨A, B, e1, fun kid' => ?_, e3 hS, e4 hS, e5, e6⟩
    rw [flat_mk, List.map_set]
    exact e2 _
theorem kid_srt {mn mx h : Nat} {t : Tr} (hO : Ok mn mx h t) (hS : Srt (flat h t)) {i : Nat} {kid : Tr} (hk : t.kids[i]? = some kid) : Srt (flk h kid) := by
  obtain ⟨A, B, e, _⟩ := kid_place hO hS hk
  rw [e] at hS
  exact (srt_append.1 (srt_append.1 hS).2.1).1
theorem kid_ok {mn mx h : Nat} {t : Tr} (hO : Ok mn mx (h + 1) t) {i : Nat} {kid : Tr} (hk : t.kids[i]? = some kid) : mn ≤ kid.its.length ∧ kid.its.length ≤ mx ∧ Ok mn mx h kid := hO.2 kid (List.mem_of_getElem? hk)
theorem kids_len {mn mx h : Nat} {t : Tr} (hO : Ok mn mx h t) (h0 : t.kids.length ≠ 0) : t.kids.length = t.its.length + 1 := by
  cases h with
  | zero => rw [show t.kids = [] from hO] at h0; exact absurd rfl h0
  | succ h => exact hO.1
theorem kids_zero {mn mx h : Nat} {t : Tr} (hO : Ok mn mx h t) (h0 : t.kids.length = 0) : h = 0 := by
  cases h with
  | zero => rfl
  | succ h => have := hO.1; omega
theorem get_found {mn mx h : Nat} {t : Tr} (hO : Ok mn mx h t) (hS : Srt (flat h t)) {k : Int} {i : Nat} {y : It} (hy : t.its[i]? = some y) (hk : y.key = k) : get (flat h t) k = some y :=
  (get_iff hS).2 ⟨(flat_sub hO).subset (List.mem_of_getElem? hy), hk⟩
theorem get_down {mn mx h : Nat} {t : Tr} (hO : Ok mn mx h t) (hS : Srt (flat h t)) {k : Int} (hf : fnd t.its k = false) {kid : Tr} (hk : t.kids[lb t.its k]? = some kid) : get (flat h t) k = get (flk h kid) k := by
  obtain ⟨A, B, e, _, h1, h2, _⟩ := kid_place hO hS hk
  have hI := srt_its hO hS
  rw [e, get_kid (h1 k fun j y hj hy => lb_below hI hj hy) (h2 k fun y hy => lb_gt hI hf hy)]
theorem get_leaf {t : Tr} (hS : Srt t.its) {k : Int} (hf : fnd t.its k = false) : get (flat 0 t) k = none := by
  rw [show flat 0 t = t.its from rfl, get_eq hS, hf]; rfl
theorem tree_step {c h b i xb : Nat} {t k : Tr} {bs : List Nat} {R : HProp} (hlen : bs.length = t.kids.length) (hk : t.kids[i]? = some k) (hxb : bs[i]? = some xb) :
    Ent (Tq c h k xb * (NodeP c b t.its bs * (Ks c h (t.kids.eraseIdx i) (bs.eraseIdx i) * R))) (Tp c h t b * R) := by
  have e : Tq c h k xb * (NodeP c b t.its bs * (Ks c h (t.kids.eraseIdx i) (bs.eraseIdx i) * R)) = NodeP c b t.its bs * Ks c h t.kids bs * R := by
    rw [Ks_at hk hxb]; ac_rfl
  rw [e]
  have := tree_fold (c := c) (h := h) (b := b) (its := t.its) hlen
  rw [Tr.eta] at this
  exact Ent.mul this (Ent.refl R)
theorem kid_ne {mn mx h : Nat} {t k : Tr} (hO : Ok mn mx (h + 1) t) (h1 : 1 ≤ mn) {i : Nat} (hk : t.kids[i]? = some k) : flat h k ≠ [] := by
  have := kid_ok hO hk
  intro e
  have hs := flat_sub this.2.2
  rw [e] at hs
  have h2 := hs.length_le
  simp only [List.length_nil] at h2
  omega
theorem head_down {mn mx h : Nat} {t k : Tr} (hO : Ok mn mx (h + 1) t) (hS : Srt (flat (h + 1) t)) (h1 : 1 ≤ mn) (hk : t.kids[0]? = some k) : (flat h k).head? = (flat (h + 1) t).head? := by
  obtain ⟨A, B, e, _, _, _, hA, _⟩ := kid_place hO hS hk
  have hn := kid_ne hO h1 hk
  rw [e, hA rfl, List.nil_append, List.head?_append]
  show _ = ((flat h k).head?).or B.head?
  cases hh : flat h k with
  | nil => exact absurd hh hn
  | cons y l => rfl
theorem last_down {mn mx h : Nat} {t k : Tr} (hO : Ok mn mx (h + 1) t) (hS : Srt (flat (h + 1) t)) (h1 : 1 ≤ mn) (hk : t.kids[t.its.length]? = some k) : (flat h k).getLast? = (flat (h + 1) t).getLast? := by
  obtain ⟨A, B, e, _, _, _, _, hB⟩ := kid_place hO hS hk
  have hn := kid_ne hO h1 hk
  rw [e, hB rfl, List.append_nil, List.getLast?_append]
  show _ = ((flat h k).getLast?).or A.getLast?
  cases hh : (flat h k).getLast? with
  | none => exact absurd (List.getLast?_eq_none_iff.1 hh) hn
  | some y => rfl
end Go.Proofs.Ytnnembkganlbpaa
