/- Taking an item out of a tree: what each step leaves of the tree's list and of its bounds. Plain lists. -/
import Derived.Test.YtnnembkganlbpaaTi
namespace Go.Proofs.Ytnnembkganlbpaa
open Go Go.Bt

/-- what is left of a list, and what was taken: the item with x's key (0), the first (1), the last (2) -/
def rml (ty : Nat) (l : List It) (x : It) : List It := if ty = 0 then rem l x.key else if ty = 1 then l.tail else l.dropLast
def rmo (ty : Nat) (l : List It) (x : It) : Option It := if ty = 0 then get l x.key else if ty = 1 then l.head? else l.getLast?
def plc (ty : Nat) (t : Tr) (x : It) : Nat := if ty = 0 then lb t.its x.key else if ty = 1 then 0 else t.its.length
def fou (ty : Nat) (t : Tr) (x : It) : Bool := if ty = 0 then fnd t.its x.key else false
theorem plc_le (ty : Nat) (t : Tr) (x : It) : plc ty t x ≤ t.its.length := by
  unfold plc
  split
  · exact lb_le _ _
  · split <;> omega
theorem lb_unique {l : List It} (hS : Srt l) {k : Int} {i : Nat} (hi : i ≤ l.length) (h1 : ∀ j y, j < i → l[j]? = some y → y.key < k) (h2 : ∀ y, l[i]? = some y → k ≤ y.key) : lb l k = i := by
  have hle := lb_le l k
  rcases Nat.lt_trichotomy (lb l k) i with h | h | h
  · obtain ⟨y, hy⟩ : ∃ y, l[lb l k]? = some y := ⟨l[lb l k]'(by omega), List.getElem?_eq_getElem (by omega)⟩
    have := (lb_lt hS hy).1 (h1 _ y h hy)
    omega
  · exact h
  · obtain ⟨y, hy⟩ : ∃ y, l[i]? = some y := ⟨l[i]'(by omega), List.getElem?_eq_getElem (by omega)⟩
    have := (lb_lt hS hy).2 h
    have := h2 y hy
    omega
theorem map_erase {α β : Type} (f : α → β) (l : List α) (i : Nat) : (l.eraseIdx i).map f = (l.map f).eraseIdx i := by
  rw [eraseIdx_eq, eraseIdx_eq]; simp
theorem tail_app {a b : List It} (h : a ≠ []) : (a ++ b).tail = a.tail ++ b := by
  cases a with
  | nil => exact absurd rfl h
  | cons x a => rfl
theorem dropLast_app {a b : List It} (h : b ≠ []) : (a ++ b).dropLast = a ++ b.dropLast := List.dropLast_append_of_ne_nil h
section
variable {mn mx h i ty : Nat} {t k : Tr} {x y z : It}
/-- the kid at plc holds what is to be taken, if the node does not -/
theorem rm_down (hO : Ok mn mx (h + 1) t) (hS : Srt (flat (h + 1) t)) (h1 : 1 ≤ mn) (hf : fou ty t x = false) (hk : t.kids[plc ty t x]? = some k) :
    rmo ty (flat (h + 1) t) x = rmo ty (flat h k) x ∧ ∀ k', flat h k' = rml ty (flat h k) x → flat (h + 1) (.mk t.its (t.kids.set (plc ty t x) k')) = rml ty (flat (h + 1) t) x := by
  have hn := kid_ne hO h1 hk
  obtain ⟨A, B, e, e2, g1, g2, g3, g4⟩ := kid_place hO hS hk
  have e : flat (h + 1) t = A ++ (flat h k ++ B) := e
  by_cases t0 : ty = 0
  · subst t0
    have hB : Bel t (plc 0 t x) x.key := bel_lb (srt_its hO hS) hf
    exact ⟨get_bel hO hS hk hB, fun k' hk' => rem_bel hO hS hk hB hk'⟩
  · by_cases t1 : ty = 1
    · subst t1
      have hA := g3 rfl
      subst hA
      refine ⟨?_, fun k' hk' => ?_⟩
      · show (flat (h + 1) t).head? = (flat h k).head?
        rw [e]
        cases hh : flat h k with
        | nil => exact absurd hh hn
        | cons y l => rfl
      · rw [e2, e]
        show [] ++ (flat h k' ++ B) = ([] ++ (flat h k ++ B)).tail
        have hk' : flat h k' = (flat h k).tail := hk'
        rw [hk', List.nil_append, List.nil_append, tail_app hn]
    · have hB := g4 (by unfold plc; rw [if_neg t0, if_neg t1])
      subst hB
      have er : ∀ l, rml ty l x = l.dropLast := fun l => by unfold rml; rw [if_neg t0, if_neg t1]
      have eo : ∀ l, rmo ty l x = l.getLast? := fun l => by unfold rmo; rw [if_neg t0, if_neg t1]
      refine ⟨?_, fun k' hk' => ?_⟩
      · rw [eo, eo, e, List.append_nil, List.getLast?_append]
        cases hh : (flat h k).getLast? with
        | none => exact absurd (List.getLast?_eq_none_iff.1 hh) hn
        | some y => rfl
      · rw [er] at hk' ⊢
        rw [e2, e]
        show A ++ (flat h k' ++ []) = _
        rw [hk', List.append_nil, List.append_nil, dropLast_app hn]
theorem weave_here {its : List It} {fs : List (List It)} (hl : fs.length = its.length + 1) {i : Nat} {y z : It} {l : List It} (hy : its[i]? = some y) (hf : fs[i]? = some (l ++ [z])) :
    ∃ A B, weave its fs = A ++ y :: B ∧ weave (its.set i z) (fs.set i l) = A ++ B := by
  induction its generalizing fs i with
  | nil => simp at hy
  | cons x its ih =>
    match fs, hl with
    | g :: fs, hl =>
      have hl' : fs.length = its.length + 1 := by simpa using hl
      have hne := ne_nil_of_len hl'
      cases i with
      | zero =>
        simp at hy hf; subst hy; subst hf
        refine ⟨l ++ [z], weave its fs, by rw [weave_cons _ _ _ hne], ?_⟩
        rw [List.set_cons_zero, List.set_cons_zero, weave_cons _ _ _ hne]; simp
      | succ i =>
        simp at hy hf
        obtain ⟨A, B, e1, e2⟩ := ih hl' hy hf
        refine ⟨g ++ x :: A, B, by rw [weave_cons _ _ _ hne, e1]; simp, ?_⟩
        rw [List.set_cons_succ, List.set_cons_succ, weave_cons _ _ _ (ne_of_len (by rw [List.length_set]; omega)), e2]; simp
/-- the item of a node gives way to the last of the kid before it -/
theorem rm_here (hO : Ok mn mx (h + 1) t) (hS : Srt (flat (h + 1) t)) (hy : t.its[i]? = some y) (hyk : y.key = x.key) (hk : t.kids[i]? = some k) (hz : (flat h k).getLast? = some z) {k' : Tr} (hk' : flat h k' = (flat h k).dropLast) :
    flat (h + 1) (.mk (t.its.set i z) (t.kids.set i k')) = rem (flat (h + 1) t) x.key := by
  have hl : (t.kids.map (flat h)).length = t.its.length + 1 := by rw [List.length_map]; exact hO.1
  have ek : flat h k = (flat h k).dropLast ++ [z] := by
    have hn : flat h k ≠ [] := by intro e; rw [e] at hz; cases hz
    have := List.dropLast_concat_getLast hn
    rw [List.getLast?_eq_some_getLast hn] at hz
    cases hz
    exact this.symm
  obtain ⟨A, B, e1, e2⟩ := weave_here (l := (flat h k).dropLast) (z := z) hl hy (by rw [List.getElem?_map, hk]; exact congrArg some ek)
  have e1 : flat (h + 1) t = A ++ y :: B := e1
  rw [flat_mk, List.map_set, hk', e2, e1, rem_mid (by rw [← e1]; exact hS) hyk]
/-- the leaf -/
theorem rm_leaf {its : List It} (hS : Srt its) : (fnd its x.key = true → rem its x.key = its.eraseIdx (lb its x.key)) ∧ (fnd its x.key = false → rem its x.key = its) := by
  rw [rem_eq hS]
  exact ⟨fun h => by rw [if_pos h], fun h => by rw [h]; rfl⟩
theorem ok_setk (hO : Ok mn mx (h + 1) t) {k' : Tr} (hk' : Ok mn mx h k') (h1 : mn ≤ k'.its.length) (h2 : k'.its.length ≤ mx) (z : It) (j : Nat) : Ok mn mx (h + 1) (.mk (t.its.set j z) (t.kids.set i k')) := by
  have := ok_set (i := i) hO hk' h1 h2
  exact ⟨by show (t.kids.set i k').length = (t.its.set j z).length + 1; rw [List.length_set, List.length_set]; exact hO.1, this.2⟩
/-- what growing a kid leaves -/
def Grown (mn mx h ty : Nat) (x : It) (t t1 : Tr) : Prop := Ok mn mx (h + 1) t1 ∧ flat (h + 1) t1 = flat (h + 1) t ∧ t.its.length ≤ t1.its.length + 1 ∧ t1.its.length ≤ t.its.length ∧ ∀ k, t1.kids[plc ty t1 x]? = some k → mn < k.its.length
theorem ok_pair (hO : Ok mn mx (h + 1) t) {a b : Tr} (ha : Ok mn mx h a) (hb : Ok mn mx h b) (a1 : mn ≤ a.its.length) (a2 : a.its.length ≤ mx) (b1 : mn ≤ b.its.length) (b2 : b.its.length ≤ mx) (z : It) (p : Nat) :
    Ok mn mx (h + 1) (.mk (t.its.set p z) ((t.kids.set p a).set (p + 1) b)) := by
  refine ⟨by show ((t.kids.set p a).set (p + 1) b).length = (t.its.set p z).length + 1; rw [List.length_set, List.length_set, List.length_set]; exact hO.1, fun q hq => ?_⟩
  have hq : q ∈ (t.kids.set p a).set (p + 1) b := hq
  rcases List.mem_or_eq_of_mem_set hq with hq | rfl
  · rcases List.mem_or_eq_of_mem_set hq with hq | rfl
    · exact hO.2 q hq
    · exact ⟨a1, a2, ha⟩
  · exact ⟨b1, b2, hb⟩
theorem pair_flat (hO : Ok mn mx (h + 1) t) {p : Nat} {a b a' b' : Tr} {x' : It} (hx : t.its[p]? = some x) (ha : t.kids[p]? = some a) (hb : t.kids[p + 1]? = some b)
    (he : flat h a' ++ x' :: flat h b' = flat h a ++ x :: flat h b) : flat (h + 1) (.mk (t.its.set p x') ((t.kids.set p a').set (p + 1) b')) = flat (h + 1) t := by
  have hl : (t.kids.map (flat h)).length = t.its.length + 1 := by rw [List.length_map]; exact hO.1
  have := weave_pair hl hx (a := flat h a) (b := flat h b) (by rw [List.getElem?_map, ha]; rfl) (by rw [List.getElem?_map, hb]; rfl) he
  rw [flat_mk, List.map_set, List.map_set]
  exact this
theorem merge_flat (hO : Ok mn mx (h + 1) t) {p : Nat} {a b m : Tr} (hx : t.its[p]? = some x) (ha : t.kids[p]? = some a) (hb : t.kids[p + 1]? = some b)
    (he : flat h m = flat h a ++ x :: flat h b) : flat (h + 1) (.mk (t.its.eraseIdx p) ((t.kids.set p m).eraseIdx (p + 1))) = flat (h + 1) t := by
  have hl : (t.kids.map (flat h)).length = t.its.length + 1 := by rw [List.length_map]; exact hO.1
  have := weave_merge hl hx (a := flat h a) (b := flat h b) (by rw [List.getElem?_map, ha]; rfl) (by rw [List.getElem?_map, hb]; rfl)
  rw [← he] at this
  rw [flat_mk, map_erase, List.map_set]
  exact this
theorem weave_two {its : List It} {fs : List (List It)} (hl : fs.length = its.length + 1) {i : Nat} {a b : List It} {x : It} (hx : its[i]? = some x) (ha : fs[i]? = some a) (hb : fs[i + 1]? = some b) :
    ∃ A B, weave its fs = A ++ ((a ++ x :: b) ++ B) := by
  induction its generalizing fs i with
  | nil => simp at hx
  | cons y its ih =>
    match fs, hl with
    | g :: fs, hl =>
      have hl' : fs.length = its.length + 1 := by simpa using hl
      have hne := ne_nil_of_len hl'
      rw [weave_cons y its g hne]
      cases i with
      | zero =>
        simp at hx ha hb
        subst hx; subst ha
        match fs, hne with
        | g2 :: fs, _ =>
          simp at hb; subst hb
          exact ⟨[], post its fs, by simp [weave]⟩
      | succ i =>
        simp at hx ha hb
        obtain ⟨A, B, e⟩ := ih hl' hx ha (by simpa using hb)
        exact ⟨g ++ y :: A, B, by rw [e]; simp⟩
theorem pair_lt (hO : Ok mn mx (h + 1) t) (hS : Srt (flat (h + 1) t)) {p : Nat} {a b : Tr} (hx : t.its[p]? = some x) (ha : t.kids[p]? = some a) (hb : t.kids[p + 1]? = some b) :
    (∀ z ∈ flat h a, z.key < x.key) ∧ ∀ z ∈ flat h b, x.key < z.key := by
  have hl : (t.kids.map (flat h)).length = t.its.length + 1 := by rw [List.length_map]; exact hO.1
  obtain ⟨A, B, e⟩ := weave_two hl hx (a := flat h a) (b := flat h b) (by rw [List.getElem?_map, ha]; rfl) (by rw [List.getElem?_map, hb]; rfl)
  have hS : Srt (weave t.its (t.kids.map (flat h))) := hS
  rw [e] at hS
  have h1 := (srt_append.1 (srt_append.1 hS).2.1).1
  have h2 := srt_append.1 h1
  exact ⟨fun z hz => h2.2.2 z hz x (by simp), fun z hz => h2.2.1.head z hz⟩

/-! ### a neighbour gives -/
def giveL (L : Tr) (l : List It) : Tr := .mk l L.kids.dropLast
def takeL (L R : Tr) (x : It) : Tr := .mk (x :: R.its) (L.kids.getLast?.toList ++ R.kids)
def giveR (R : Tr) (r : List It) : Tr := .mk r R.kids.tail
def takeR (L R : Tr) (x : It) : Tr := .mk (L.its ++ [x]) (L.kids ++ R.kids.head?.toList)
def joinT (L R : Tr) (x : It) : Tr := .mk (L.its ++ x :: R.its) (L.kids ++ R.kids)
theorem stealL {L R : Tr} {l : List It} (hL : Ok mn mx h L) (hR : Ok mn mx h R) (e : L.its = l ++ [z]) (x : It) :
    flat h (giveL L l) ++ z :: flat h (takeL L R x) = flat h L ++ x :: flat h R ∧ Ok mn mx h (giveL L l) ∧ Ok mn mx h (takeL L R x) ∧ z ∈ flat h L := by
  have hz : z ∈ flat h L := (flat_sub hL).subset (by rw [e]; simp)
  cases h with
  | zero =>
    have e1 : L.kids = [] := hL
    have e2 : R.kids = [] := hR
    refine ⟨?_, by show L.kids.dropLast = []; rw [e1]; rfl, by show L.kids.getLast?.toList ++ R.kids = []; rw [e1, e2]; rfl, hz⟩
    show l ++ z :: (x :: R.its) = L.its ++ x :: R.its
    rw [e]; simp
  | succ h =>
    have h1 := hL.1
    have h2 := hR.1
    rw [e] at h1
    simp at h1
    obtain ⟨ks, q, hk⟩ : ∃ ks q, L.kids = ks ++ [q] := ⟨L.kids.dropLast, L.kids.getLast (ne_of_len (by omega)), (List.dropLast_concat_getLast _).symm⟩
    have h3 : ks.length = l.length + 1 := by rw [hk] at h1; simp at h1; omega
    have eg : giveL L l = .mk l ks := by unfold giveL; rw [hk]; simp
    have et : takeL L R x = .mk (x :: R.its) (q :: R.kids) := by unfold takeL; rw [hk]; simp
    rw [eg, et]
    have fL : flat (h + 1) L = weave l (ks.map (flat h)) ++ z :: flat h q := by
      show weave L.its (L.kids.map (flat h)) = _
      rw [e, hk, List.map_append]
      show weave (l ++ z :: []) (ks.map (flat h) ++ [flat h q]) = _
      rw [weave_join z (by rw [List.length_map]; exact h3) rfl, weave_one]
    have fR : flat (h + 1) (.mk (x :: R.its) (q :: R.kids)) = flat h q ++ x :: flat (h + 1) R := by
      rw [flat_mk, List.map_cons, weave_cons _ _ _ (ne_of_len (by rw [List.length_map]; omega))]; rfl
    refine ⟨?_, ⟨h3, fun k hk' => hL.2 k (by rw [hk]; exact List.mem_append_left _ hk')⟩, ⟨by show (q :: R.kids).length = (x :: R.its).length + 1; simp; exact h2, fun k hk' => ?_⟩, hz⟩
    · rw [fR, fL, flat_mk]; simp
    · rcases List.mem_cons.1 (show k ∈ q :: R.kids from hk') with rfl | hk'
      · exact hL.2 k (by rw [hk]; simp)
      · exact hR.2 k hk'
theorem stealR {L R : Tr} {r : List It} (hL : Ok mn mx h L) (hR : Ok mn mx h R) (e : R.its = z :: r) (x : It) :
    flat h (takeR L R x) ++ z :: flat h (giveR R r) = flat h L ++ x :: flat h R ∧ Ok mn mx h (takeR L R x) ∧ Ok mn mx h (giveR R r) ∧ z ∈ flat h R := by
  have hz : z ∈ flat h R := (flat_sub hR).subset (by rw [e]; simp)
  cases h with
  | zero =>
    have e1 : L.kids = [] := hL
    have e2 : R.kids = [] := hR
    refine ⟨?_, by show L.kids ++ R.kids.head?.toList = []; rw [e1, e2]; rfl, by show R.kids.tail = []; rw [e2]; rfl, hz⟩
    show (L.its ++ [x]) ++ z :: r = L.its ++ x :: R.its
    rw [e]; simp
  | succ h =>
    have h1 := hL.1
    have h2 := hR.1
    rw [e] at h2
    simp at h2
    obtain ⟨q, ks, hk⟩ : ∃ q ks, R.kids = q :: ks := by
      cases hh : R.kids with
      | nil => rw [hh] at h2; simp at h2
      | cons q ks => exact ⟨q, ks, rfl⟩
    have h3 : ks.length = r.length + 1 := by rw [hk] at h2; simp at h2; omega
    have eg : giveR R r = .mk r ks := by unfold giveR; rw [hk]; rfl
    have et : takeR L R x = .mk (L.its ++ [x]) (L.kids ++ [q]) := by unfold takeR; rw [hk]; rfl
    rw [eg, et]
    have fL : flat (h + 1) (.mk (L.its ++ [x]) (L.kids ++ [q])) = flat (h + 1) L ++ x :: flat h q := by
      rw [flat_mk, List.map_append]
      show weave (L.its ++ x :: []) (L.kids.map (flat h) ++ [flat h q]) = _
      rw [weave_join x (by rw [List.length_map]; exact h1) rfl, weave_one]; rfl
    have fR : flat (h + 1) R = flat h q ++ z :: weave r (ks.map (flat h)) := by
      show weave R.its (R.kids.map (flat h)) = _
      rw [e, hk, List.map_cons, weave_cons _ _ _ (ne_of_len (by rw [List.length_map]; omega))]
    refine ⟨?_, ⟨by show (L.kids ++ [q]).length = (L.its ++ [x]).length + 1; simp; exact h1, fun k hk' => ?_⟩, ⟨h3, fun k hk' => hR.2 k (by rw [hk]; exact List.mem_cons_of_mem _ hk')⟩, hz⟩
    · rw [fR, fL, flat_mk]; simp
    · rcases List.mem_append.1 (show k ∈ L.kids ++ [q] from hk') with hk' | hk'
      · exact hL.2 k hk'
      · have : k = q := by simpa using hk'
        subst this
        exact hR.2 k (by rw [hk]; simp)
theorem joinT_ok {L R : Tr} (hL : Ok mn mx h L) (hR : Ok mn mx h R) (x : It) : flat h (joinT L R x) = flat h L ++ x :: flat h R ∧ Ok mn mx h (joinT L R x) := by
  cases h with
  | zero =>
    have e1 : L.kids = [] := hL
    have e2 : R.kids = [] := hR
    exact ⟨rfl, by show L.kids ++ R.kids = []; rw [e1, e2]; rfl⟩
  | succ h =>
    have h1 := hL.1
    have h2 := hR.1
    refine ⟨?_, by show (L.kids ++ R.kids).length = (L.its ++ x :: R.its).length + 1; simp; omega, fun k hk => ?_⟩
    · show weave (L.its ++ x :: R.its) ((L.kids ++ R.kids).map (flat h)) = _
      rw [List.map_append, weave_join x (by rw [List.length_map]; exact h1) (by rw [List.length_map]; exact h2)]; rfl
    · rcases List.mem_append.1 (show k ∈ L.kids ++ R.kids from hk) with hk | hk
      · exact hL.2 k hk
      · exact hR.2 k hk

/-! ### the kid has grown -/
theorem set_pair {α : Type} {l : List α} {p : Nat} {a b : α} (hp : p + 1 < l.length) : ((l.set p a).set (p + 1) b)[p]? = some a ∧ ((l.set p a).set (p + 1) b)[p + 1]? = some b := by
  constructor
  · rw [List.getElem?_set_ne (show p + 1 ≠ p by omega), List.getElem?_set_self (by omega)]
  · rw [List.getElem?_set_self (by rw [List.length_set]; exact hp)]
theorem grown_left {p : Nat} {L R : Tr} {l : List It} {w : It} (hO : Ok mn mx (h + 1) t) (hS : Srt (flat (h + 1) t)) (hmx : mx = 2 * mn + 1) (hp : plc ty t x = p + 1) (hw : t.its[p]? = some w) (hL : t.kids[p]? = some L) (hR : t.kids[p + 1]? = some R)
    (e : L.its = l ++ [z]) (hbig : mn < L.its.length) (hsm : R.its.length ≤ mn) : Grown mn mx h ty x t (.mk (t.its.set p z) ((t.kids.set p (giveL L l)).set (p + 1) (takeL L R w))) := by
  have kL := kid_ok hO hL
  have kR := kid_ok hO hR
  obtain ⟨s1, s2, s3, s4⟩ := stealL kL.2.2 kR.2.2 e w
  have hlen : L.its.length = l.length + 1 := by rw [e]; simp
  have hpl : p < t.its.length := (List.getElem?_eq_some_iff.1 hw).1
  have hpk : p + 1 < t.kids.length := (List.getElem?_eq_some_iff.1 hR).1
  have hO1 : Ok mn mx (h + 1) (.mk (t.its.set p z) ((t.kids.set p (giveL L l)).set (p + 1) (takeL L R w))) :=
    ok_pair hO s2 s3 (by show mn ≤ l.length; omega) (by show l.length ≤ mx; omega) (by show mn ≤ (w :: R.its).length; simp; omega) (by show (w :: R.its).length ≤ mx; simp; omega) z p
  have hF := pair_flat hO hw hL hR s1
  have hlt := (pair_lt hO hS hw hL hR).1 z s4
  refine ⟨hO1, hF, by show _ ≤ (t.its.set p z).length + 1; rw [List.length_set]; omega, by show (t.its.set p z).length ≤ _; rw [List.length_set]; omega, fun k hk => ?_⟩
  have hpl1 : plc ty (.mk (t.its.set p z) ((t.kids.set p (giveL L l)).set (p + 1) (takeL L R w))) x = p + 1 := by
    unfold plc at hp ⊢
    by_cases t0 : ty = 0
    · rw [if_pos t0] at hp ⊢
      have hSi := srt_its hO hS
      have hSi1 : Srt (t.its.set p z) := srt_its hO1 (by rw [hF]; exact hS)
      have hwk : w.key < x.key := (lb_lt hSi hw).2 (by omega)
      refine lb_unique hSi1 (by rw [List.length_set]; omega) (fun j y hj hy => ?_) (fun y hy => ?_)
      · rw [List.getElem?_set] at hy
        split at hy
        · cases hy; omega
        · exact (lb_lt hSi hy).2 (by omega)
      · rw [List.getElem?_set_ne (by omega)] at hy
        have : ¬ y.key < x.key := by rw [lb_lt hSi hy]; omega
        omega
    · rw [if_neg t0] at hp ⊢
      split at hp
      · omega
      · rename_i t1
        rw [if_neg t1]
        show (t.its.set p z).length = p + 1
        rw [List.length_set]; exact hp
  rw [hpl1] at hk
  have hk2 : ((t.kids.set p (giveL L l)).set (p + 1) (takeL L R w))[p + 1]? = some k := hk
  rw [(set_pair hpk).2] at hk2
  cases hk2
  show mn < (w :: R.its).length
  simp; omega
theorem grown_right {p : Nat} {L R : Tr} {r : List It} {w : It} (hO : Ok mn mx (h + 1) t) (hS : Srt (flat (h + 1) t)) (hmx : mx = 2 * mn + 1) (hp : plc ty t x = p) (hw : t.its[p]? = some w) (hL : t.kids[p]? = some L) (hR : t.kids[p + 1]? = some R)
    (e : R.its = z :: r) (hbig : mn < R.its.length) (hsm : L.its.length ≤ mn) : Grown mn mx h ty x t (.mk (t.its.set p z) ((t.kids.set p (takeR L R w)).set (p + 1) (giveR R r))) := by
  have kL := kid_ok hO hL
  have kR := kid_ok hO hR
  obtain ⟨s1, s2, s3, s4⟩ := stealR kL.2.2 kR.2.2 e w
  have hlen : R.its.length = r.length + 1 := by rw [e]; simp
  have hpl : p < t.its.length := (List.getElem?_eq_some_iff.1 hw).1
  have hpk : p + 1 < t.kids.length := (List.getElem?_eq_some_iff.1 hR).1
  have hO1 : Ok mn mx (h + 1) (.mk (t.its.set p z) ((t.kids.set p (takeR L R w)).set (p + 1) (giveR R r))) :=
    ok_pair hO s2 s3 (by show mn ≤ (L.its ++ [w]).length; simp; omega) (by show (L.its ++ [w]).length ≤ mx; simp; omega) (by show mn ≤ r.length; omega) (by show r.length ≤ mx; omega) z p
  have hF := pair_flat hO hw hL hR s1
  have hlt := (pair_lt hO hS hw hL hR).2 z s4
  refine ⟨hO1, hF, by show _ ≤ (t.its.set p z).length + 1; rw [List.length_set]; omega, by show (t.its.set p z).length ≤ _; rw [List.length_set]; omega, fun k hk => ?_⟩
  have hpl1 : plc ty (.mk (t.its.set p z) ((t.kids.set p (takeR L R w)).set (p + 1) (giveR R r))) x = p := by
    unfold plc at hp ⊢
    by_cases t0 : ty = 0
    · rw [if_pos t0] at hp ⊢
      have hSi := srt_its hO hS
      have hSi1 : Srt (t.its.set p z) := srt_its hO1 (by rw [hF]; exact hS)
      have hwk : ¬ w.key < x.key := by rw [lb_lt hSi hw]; omega
      refine lb_unique hSi1 (by rw [List.length_set]; omega) (fun j y hj hy => ?_) (fun y hy => ?_)
      · rw [List.getElem?_set_ne (by omega)] at hy
        exact (lb_lt hSi hy).2 (by omega)
      · simp [hpl] at hy
        subst hy; omega
    · rw [if_neg t0] at hp ⊢
      split at hp
      · rename_i t1; rw [if_pos t1]; exact hp
      · omega
  rw [hpl1] at hk
  have hk2 : ((t.kids.set p (takeR L R w)).set (p + 1) (giveR R r))[p]? = some k := hk
  rw [(set_pair hpk).1] at hk2
  cases hk2
  have : (takeR L R w).its.length = L.its.length + 1 := by show (L.its ++ [w]).length = _; simp
  have := kL.1
  omega
theorem grown_join {p : Nat} {L R : Tr} {w : It} (hO : Ok mn mx (h + 1) t) (hS : Srt (flat (h + 1) t)) (hmx : mx = 2 * mn + 1) (hp : plc ty t x = p ∨ (plc ty t x = p + 1 ∧ t.its.length = p + 1)) (hw : t.its[p]? = some w) (hL : t.kids[p]? = some L) (hR : t.kids[p + 1]? = some R)
    (hsL : L.its.length ≤ mn) (hsR : R.its.length ≤ mn) : Grown mn mx h ty x t (.mk (t.its.eraseIdx p) ((t.kids.set p (joinT L R w)).eraseIdx (p + 1))) := by
  have kL := kid_ok hO hL
  have kR := kid_ok hO hR
  obtain ⟨s1, s2⟩ := joinT_ok kL.2.2 kR.2.2 w
  have hpl : p < t.its.length := (List.getElem?_eq_some_iff.1 hw).1
  have hpk : p + 1 < t.kids.length := (List.getElem?_eq_some_iff.1 hR).1
  have hjl : (joinT L R w).its.length = L.its.length + R.its.length + 1 := by show (L.its ++ w :: R.its).length = _; simp; omega
  have h0 := hO.1
  have le1 : (t.its.eraseIdx p).length = t.its.length - 1 := by rw [List.length_eraseIdx, if_pos hpl]
  have le2 : ((t.kids.set p (joinT L R w)).eraseIdx (p + 1)).length = t.kids.length - 1 := by rw [List.length_eraseIdx, List.length_set, if_pos hpk]
  have hO1 : Ok mn mx (h + 1) (.mk (t.its.eraseIdx p) ((t.kids.set p (joinT L R w)).eraseIdx (p + 1))) := by
    refine ⟨by show ((t.kids.set p (joinT L R w)).eraseIdx (p + 1)).length = (t.its.eraseIdx p).length + 1; omega, fun k hk => ?_⟩
    have hk : k ∈ (t.kids.set p (joinT L R w)).eraseIdx (p + 1) := hk
    rcases List.mem_or_eq_of_mem_set (List.mem_of_mem_eraseIdx hk) with hk | rfl
    · exact hO.2 k hk
    · exact ⟨by omega, by omega, s2⟩
  have hF := merge_flat hO hw hL hR s1
  refine ⟨hO1, hF, by show _ ≤ (t.its.eraseIdx p).length + 1; omega, by show (t.its.eraseIdx p).length ≤ _; omega, fun k hk => ?_⟩
  have hpl1 : plc ty (.mk (t.its.eraseIdx p) ((t.kids.set p (joinT L R w)).eraseIdx (p + 1))) x = p := by
    unfold plc at hp ⊢
    by_cases t0 : ty = 0
    · rw [if_pos t0] at hp ⊢
      have hSi := srt_its hO hS
      have hSi1 : Srt (t.its.eraseIdx p) := srt_its hO1 (by rw [hF]; exact hS)
      refine lb_unique hSi1 (by omega) (fun j y hj hy => ?_) (fun y hy => ?_)
      · rw [List.getElem?_eraseIdx_of_lt hj] at hy
        exact (lb_lt hSi hy).2 (by omega)
      · rw [List.getElem?_eraseIdx_of_ge (Nat.le_refl p)] at hy
        have hlt := (List.getElem?_eq_some_iff.1 hy).1
        have : ¬ y.key < x.key := by rw [lb_lt hSi hy]; omega
        omega
    · rw [if_neg t0] at hp ⊢
      split at hp
      · rename_i t1; rw [if_pos t1]; omega
      · rename_i t1; rw [if_neg t1]
        show (t.its.eraseIdx p).length = p
        omega
  rw [hpl1] at hk
  have hk2 : ((t.kids.set p (joinT L R w)).eraseIdx (p + 1))[p]? = some k := hk
  rw [List.getElem?_eraseIdx_of_lt (Nat.lt_succ_self p)] at hk2
  have hpk2 : p < t.kids.length := by omega
  simp [hpk2] at hk2
  subst hk2
  have := kL.1
  have := kR.1
  omega
end
end Go.Proofs.Ytnnembkganlbpaa
