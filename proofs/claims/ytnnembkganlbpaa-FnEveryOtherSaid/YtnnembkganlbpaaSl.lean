/- A small separation logic over the model's heap: partial heaps of blocks, their disjoint union, 'St w0 H w': the world w has w0's streams and a part of its heap meets H. No program in sight. -/
import Derived.WalkKit
import Derived.Deep.Draws
namespace Go.Sl
open Go.RowKit

abbrev Hp := Nat → Option Obj
def HProp : Type := Hp → Prop
def Dj (a b : Hp) : Prop := ∀ k, a k = none ∨ b k = none
def un (a b : Hp) : Hp := fun k => (a k).or (b k)
def starF (P Q : HProp) : HProp := fun h => ∃ a b, P a ∧ Q b ∧ Dj a b ∧ h = un a b
def emp : HProp := fun h => h = fun _ => none
instance : Mul HProp := ⟨starF⟩
instance : OfNat HProp 1 := ⟨emp⟩
def pu (p : Prop) : HProp := fun h => p ∧ emp h
def pts (b : Nat) (o : Obj) : HProp := fun h => h = fun k => if k = b then some o else none
def ex {α : Type} (f : α → HProp) : HProp := fun h => ∃ a, f a h
def Ent (P Q : HProp) : Prop := ∀ h, P h → Q h

theorem star_def (P Q : HProp) (h : Hp) : (P * Q) h ↔ ∃ a b, P a ∧ Q b ∧ Dj a b ∧ h = un a b := Iff.rfl
theorem one_def (h : Hp) : (1 : HProp) h ↔ h = fun _ => none := Iff.rfl

theorem un_comm {a b : Hp} (h : Dj a b) : un a b = un b a := by
  funext k
  unfold un
  rcases h k with e | e <;> rw [e] <;> simp
theorem un_assoc (a b c : Hp) : un (un a b) c = un a (un b c) := by
  funext k
  unfold un
  cases a k <;> simp
theorem dj_comm {a b : Hp} (h : Dj a b) : Dj b a := fun k => (h k).symm
theorem dj_un {a b c : Hp} : Dj (un a b) c ↔ Dj a c ∧ Dj b c := by
  constructor
  · intro h
    refine ⟨fun k => ?_, fun k => ?_⟩
    · rcases h k with e | e
      · unfold un at e
        cases ha : a k
        · exact .inl rfl
        · rw [ha] at e; simp at e
      · exact .inr e
    · rcases h k with e | e
      · unfold un at e
        cases ha : a k
        · rw [ha] at e; left; simpa using e
        · rw [ha] at e; simp at e
      · exact .inr e
  · rintro ⟨h1, h2⟩ k
    rcases h1 k with e | e
    · rcases h2 k with e2 | e2
      · left; unfold un; rw [e, e2]; rfl
      · exact .inr e2
    · exact .inr e

theorem mul_comm' (P Q : HProp) : P * Q = Q * P := by
  funext h
  apply propext
  constructor
  · rintro ⟨a, b, p, q, d, rfl⟩
    exact ⟨b, a, q, p, dj_comm d, un_comm d⟩
  · rintro ⟨a, b, p, q, d, rfl⟩
    exact ⟨b, a, q, p, dj_comm d, un_comm d⟩
theorem mul_assoc' (P Q R : HProp) : P * Q * R = P * (Q * R) := by
  funext h
  apply propext
  constructor
  · rintro ⟨ab, c, ⟨a, b, p, q, d1, rfl⟩, r, d2, rfl⟩
    have := dj_un.1 d2
    refine ⟨a, un b c, p, ⟨b, c, q, r, this.2, rfl⟩, ?_, un_assoc a b c⟩
    exact dj_comm (dj_un.2 ⟨dj_comm d1, dj_comm this.1⟩)
  · rintro ⟨a, bc, p, ⟨b, c, q, r, d1, rfl⟩, d2, rfl⟩
    have := dj_un.1 (dj_comm d2)
    exact ⟨un a b, c, ⟨a, b, p, q, dj_comm this.1, rfl⟩, r, dj_un.2 ⟨dj_comm this.2, d1⟩, (un_assoc a b c).symm⟩
theorem one_mul' (P : HProp) : 1 * P = P := by
  funext h
  apply propext
  constructor
  · rintro ⟨a, b, rfl, q, d, rfl⟩
    have : un (fun _ => none) b = b := by funext k; rfl
    rw [this]; exact q
  · intro q
    exact ⟨fun _ => none, h, rfl, q, fun k => .inl rfl, by funext k; rfl⟩
theorem mul_one' (P : HProp) : P * 1 = P := by rw [mul_comm', one_mul']
theorem mul_left_comm' (P Q R : HProp) : P * (Q * R) = Q * (P * R) := by rw [← mul_assoc', mul_comm' P Q, mul_assoc']
instance : Std.Associative (α := HProp) (· * ·) := ⟨mul_assoc'⟩
instance : Std.Commutative (α := HProp) (· * ·) := ⟨mul_comm'⟩

theorem Ent.refl (P : HProp) : Ent P P := fun _ h => h
theorem Ent.trans {P Q R : HProp} (h : Ent P Q) (k : Ent Q R) : Ent P R := fun x p => k x (h x p)
theorem Ent.mul {P P' Q Q' : HProp} (h : Ent P P') (k : Ent Q Q') : Ent (P * Q) (P' * Q') := by
  rintro x ⟨a, b, p, q, d, rfl⟩
  exact ⟨a, b, h a p, k b q, d, rfl⟩
theorem Ent.of_eq {P Q : HProp} (h : P = Q) : Ent P Q := by subst h; exact Ent.refl P

theorem ex_mul {α : Type} (f : α → HProp) (F : HProp) : ex f * F = ex fun x => f x * F := by
  funext h
  apply propext
  constructor
  · rintro ⟨a, b, ⟨x, p⟩, q, d, rfl⟩
    exact ⟨x, a, b, p, q, d, rfl⟩
  · rintro ⟨x, a, b, p, q, d, rfl⟩
    exact ⟨a, b, ⟨x, p⟩, q, d, rfl⟩
theorem mul_ex {α : Type} (f : α → HProp) (F : HProp) : F * ex f = ex fun x => F * f x := by
  rw [mul_comm', ex_mul]; congr; funext x; rw [mul_comm']

/-! ### The state -/
structure St (w0 : World) (H : HProp) (w : World) : Prop where
  os : w.os = w0.os
  tape : w.tape = w0.tape
  output : w.output = w0.output
  heap : ∃ h : Hp, (∀ k o, h k = some o → w.heap[k]? = some o) ∧ H h

theorem St.mono {w0 w : World} {H H' : HProp} (hs : St w0 H w) (h : Ent H H') : St w0 H' w :=
  ⟨hs.os, hs.tape, hs.output, let ⟨x, a, b⟩ := hs.heap; ⟨x, a, h x b⟩⟩
theorem St.eq {w0 w : World} {H H' : HProp} (hs : St w0 H w) (h : H = H') : St w0 H' w := h ▸ hs
theorem St.drop {w0 w : World} {H F : HProp} (hs : St w0 (H * F) w) : St w0 F w := by
  obtain ⟨x, a, p, q, hp, hq, d, rfl⟩ := hs.heap
  refine ⟨hs.os, hs.tape, hs.output, q, fun k o hk => a k o ?_, hq⟩
  rcases d k with e | e
  · unfold un; rw [e]; simpa using hk
  · rw [e] at hk; cases hk
theorem St.fst {w0 w : World} {H F : HProp} (hs : St w0 (H * F) w) : St w0 H w := St.drop (hs.eq (mul_comm' H F))
theorem St.ex {α : Type} {w0 w : World} {f : α → HProp} {F : HProp} (hs : St w0 (ex f * F) w) : ∃ x, St w0 (f x * F) w := by
  rw [ex_mul] at hs
  obtain ⟨h, a, x, hx⟩ := hs.heap
  exact ⟨x, hs.os, hs.tape, hs.output, h, a, hx⟩
theorem St.mk_ex {α : Type} {w0 w : World} {f : α → HProp} {F : HProp} (x : α) (hs : St w0 (f x * F) w) : St w0 (Sl.ex f * F) w :=
  hs.mono (Ent.mul (fun _ h => ⟨x, h⟩) (Ent.refl _))
theorem pu_mul (p : Prop) (F : HProp) (h : Hp) : (pu p * F) h ↔ p ∧ F h := by
  constructor
  · rintro ⟨a, b, ⟨hp, rfl⟩, q, d, rfl⟩
    exact ⟨hp, by have : un (fun _ => none) b = b := by funext k; rfl
                  rw [this]; exact q⟩
  · rintro ⟨hp, q⟩
    exact ⟨fun _ => none, h, ⟨hp, rfl⟩, q, fun k => .inl rfl, by funext k; rfl⟩
theorem pu_true {p : Prop} (hp : p) (F : HProp) : pu p * F = F := by
  funext h; exact propext ⟨fun x => ((pu_mul p F h).1 x).2, fun x => (pu_mul p F h).2 ⟨hp, x⟩⟩
theorem St.pure {w0 w : World} {p : Prop} {F : HProp} (hs : St w0 (pu p * F) w) : p ∧ St w0 F w := by
  obtain ⟨h, a, hh⟩ := hs.heap
  have := (pu_mul p F h).1 hh
  exact ⟨this.1, hs.os, hs.tape, hs.output, h, a, this.2⟩
theorem St.mk_pure {w0 w : World} {p : Prop} {F : HProp} (hp : p) (hs : St w0 F w) : St w0 (pu p * F) w := by
  rw [pu_true hp]; exact hs

theorem St.pts {w0 w : World} {b : Nat} {o : Obj} {F : HProp} (hs : St w0 (pts b o * F) w) : w.heap[b]? = some o := by
  obtain ⟨h, a, p, q, rfl, hq, d, rfl⟩ := hs.heap
  exact a b o (by simp [un])
theorem St.lt {w0 w : World} {b : Nat} {o : Obj} {F : HProp} (hs : St w0 (Sl.pts b o * F) w) : b < w.heap.size :=
  (Array.getElem?_eq_some_iff.1 hs.pts).1
theorem St.cell {w0 w : World} {b : Nat} {cs : Array Value} {E : TypeId} {fr : Nat × Nat} {F : HProp} (hs : St w0 (Sl.pts b (.cells cs E fr) * F) w) (i : Nat) :
    w.cell? ⟨b, i, none⟩ = cs[i]? := cell_of_row w b i cs E fr hs.pts
theorem St.frozen {w0 w : World} {b : Nat} {cs : Array Value} {E : TypeId} {F : HProp} (hs : St w0 (Sl.pts b (.cells cs E (0, 0)) * F) w) (i : Nat) :
    w.frozen? ⟨b, i, none⟩ = false := by
  simp [World.frozen?, hs.pts]
theorem St.ne {w0 w : World} {a b : Nat} {o o' : Obj} {F : HProp} (hs : St w0 (Sl.pts a o * (Sl.pts b o' * F)) w) : a ≠ b := by
  rintro rfl
  obtain ⟨h, _, p, q, rfl, ⟨p', q', rfl, _, _, rfl⟩, d, _⟩ := hs.heap
  rcases d a with e | e
  · simp at e
  · simp [un] at e

/-- One block is turned, or laid new; all others stay. -/
theorem St.upd {w0 w w' : World} {b : Nat} {o o' : Obj} {F : HProp} (hs : St w0 (Sl.pts b o * F) w) (h1 : w'.os = w.os) (h2 : w'.tape = w.tape) (h3 : w'.output = w.output)
    (hb : w'.heap[b]? = some o') (hk : ∀ k, k ≠ b → k < w.heap.size → w'.heap[k]? = w.heap[k]?) : St w0 (Sl.pts b o' * F) w' := by
  obtain ⟨h, a, p, q, rfl, hq, d, rfl⟩ := hs.heap
  refine ⟨h1.trans hs.os, h2.trans hs.tape, h3.trans hs.output, _, ?_, fun k => if k = b then some o' else none, q, rfl, hq, ?_, rfl⟩
  · intro k x hx
    by_cases e : k = b
    · subst e
      simp [un] at hx
      subst hx; exact hb
    · have hq' : q k = some x := by simpa [un, e] using hx
      have := a k x (by simp [un, e, hq'])
      rw [hk k e (Array.getElem?_eq_some_iff.1 this).1]; exact this
  · intro k
    rcases d k with e | e
    · left
      by_cases e' : k = b
      · subst e'; simp at e
      · simp [e']
    · exact .inr e
theorem St.new {w0 w w' : World} {b : Nat} {o' : Obj} {F : HProp} (hs : St w0 F w) (h1 : w'.os = w.os) (h2 : w'.tape = w.tape) (h3 : w'.output = w.output)
    (hb : w'.heap[b]? = some o') (hnew : w.heap.size ≤ b) (hk : ∀ k, k < w.heap.size → w'.heap[k]? = w.heap[k]?) : St w0 (Sl.pts b o' * F) w' := by
  obtain ⟨q, a, hq⟩ := hs.heap
  have hlt : ∀ k x, q k = some x → k < w.heap.size := fun k x hx => (Array.getElem?_eq_some_iff.1 (a k x hx)).1
  refine ⟨h1.trans hs.os, h2.trans hs.tape, h3.trans hs.output, _, ?_, fun k => if k = b then some o' else none, q, rfl, hq, ?_, rfl⟩
  · intro k x hx
    by_cases e : k = b
    · subst e
      simp [un] at hx
      subst hx; exact hb
    · have hq' : q k = some x := by simpa [un, e] using hx
      rw [hk k (hlt k x hq')]; exact a k x hq'
  · intro k
    by_cases e' : k = b
    · right
      cases hx : q k with
      | none => rfl
      | some x => have := hlt k x hx; omega
    · left; simp [e']

theorem St.alloc {w0 w : World} {F : HProp} (hs : St w0 F w) (o : Obj) : St w0 (Sl.pts w.heap.size o * F) (w.alloc o) :=
  hs.new rfl rfl rfl (heap_alloc_new w o) (Nat.le_refl _) fun k hk => Below.heap_alloc w o k hk
theorem St.drew {w0 w : World} {F : HProp} (hs : St w0 F w) : St w0 F w.drew := ⟨hs.os, hs.tape, hs.output, hs.heap⟩
theorem St.drewN {w0 w : World} {F : HProp} (hs : St w0 F w) (n : Nat) : St w0 F (w.drewN n) := ⟨hs.os, hs.tape, hs.output, hs.heap⟩
theorem setCell_heap_same {w : World} {b i : Nat} {cs : Array Value} {E : TypeId} {fr : Nat × Nat} (h : w.heap[b]? = some (.cells cs E fr)) (v : Value) :
    (w.setCell ⟨b, i, none⟩ v).heap[b]? = some (.cells (cs.setIfInBounds i v) E fr) := by
  simp [World.setCell, Array.getElem?_modify, h]
theorem St.setCell {w0 w : World} {b : Nat} {cs : Array Value} {E : TypeId} {fr : Nat × Nat} {F : HProp} (hs : St w0 (Sl.pts b (.cells cs E fr) * F) w) (i : Nat) (v : Value) :
    St w0 (Sl.pts b (.cells (cs.setIfInBounds i v) E fr) * F) (w.setCell ⟨b, i, none⟩ v) :=
  hs.upd rfl rfl rfl (setCell_heap_same hs.pts v) fun k hk _ => Below.heap_setCell w ⟨b, i, none⟩ v k hk
theorem St.setRow {w0 w : World} {b : Nat} {cs cs' : Array Value} {E : TypeId} {fr : Nat × Nat} {F : HProp} (hs : St w0 (Sl.pts b (.cells cs E fr) * F) w) :
    St w0 (Sl.pts b (.cells cs' E fr) * F) (w.setRow b cs') :=
  hs.upd rfl rfl rfl (setRow_heap w b cs cs' E fr hs.pts) fun k hk _ => setRow_other w b k cs' hk

/-! ### Triples -/
def Tri (P : Program) (f : FuncId) (args : Array Value) (Pre : HProp) (Post : Value → HProp) : Prop :=
  ∀ (w0 : World) (F : HProp) (w : World), St w0 (Pre * F) w → Calls P f args w fun e w' => ∃ v, e = .returned v ∧ St w0 (Post v * F) w'

/-! ### Many -/
def stars : List HProp → HProp
  | [] => 1
  | P :: l => P * stars l
theorem stars_nil : stars [] = 1 := rfl
theorem stars_cons (P : HProp) (l : List HProp) : stars (P :: l) = P * stars l := rfl
theorem stars_append (l l' : List HProp) : stars (l ++ l') = stars l * stars l' := by
  induction l with
  | nil => rw [List.nil_append, stars_nil, one_mul']
  | cons P l ih => rw [List.cons_append, stars_cons, stars_cons, ih, mul_assoc']
theorem stars_at {l : List HProp} {i : Nat} {P : HProp} (h : l[i]? = some P) : stars l = P * stars (l.eraseIdx i) := by
  induction l generalizing i with
  | nil => simp at h
  | cons Q l ih =>
    cases i with
    | zero => simp at h; subst h; rfl
    | succ i =>
      simp at h
      rw [List.eraseIdx_cons_succ, stars_cons, stars_cons, ih h, mul_left_comm']
theorem stars_set {l : List HProp} {i : Nat} (P : HProp) (h : i < l.length) : stars (l.set i P) = P * stars (l.eraseIdx i) := by
  rw [stars_at (l := l.set i P) (i := i) (P := P) (by simp [h])]
  congr 1
  congr 1
  exact List.eraseIdx_set_eq ..
theorem stars_insert {l : List HProp} {i : Nat} (P : HProp) (h : i ≤ l.length) : stars (l.insertIdx i P) = P * stars l := by
  induction l generalizing i with
  | nil => cases i <;> simp_all [stars_cons]
  | cons Q l ih =>
    cases i with
    | zero => rfl
    | succ i => rw [List.insertIdx_succ_cons, stars_cons, stars_cons, ih (by simpa using h), mul_left_comm']
end Go.Sl
