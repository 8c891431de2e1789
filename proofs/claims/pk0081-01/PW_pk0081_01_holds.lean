import PyProof.Rows.All
import Wide.All
import OpenK.AllK
import Wide.FinOn
import PySem.Challenge.RW_pk0081_01
set_option Elab.async false
set_option autoImplicit false
namespace Mine
section
variable (sc : Nat → Nat → Nat)
/-- the edit distance: a sign put in or struck 2, exchanged sc -/
noncomputable def D : List Nat → List Nat → Nat
  | [], b => 2 * b.length
  | a@(_ :: _), [] => 2 * a.length
  | x :: a, y :: b => min (min (D a (y :: b)) (D (x :: a) b) + 2) (D a b + sc x y)
termination_by a b => a.length + b.length
theorem D_nil (b : List Nat) : D sc [] b = 2 * b.length := by rw [D]
theorem D_nil' (a : List Nat) : D sc a [] = 2 * a.length := by cases a <;> simp [D]
theorem D_cc (x y : Nat) (a b : List Nat) : D sc (x :: a) (y :: b) = min (min (D sc a (y :: b)) (D sc (x :: a) b) + 2) (D sc a b + sc x y) := by rw [D]
inductive Al : List Nat → List Nat → Nat → Prop
  | nil : Al [] [] 0
  | del {a b : List Nat} {n : Nat} (x : Nat) : Al a b n → Al (x :: a) b (n + 2)
  | ins {a b : List Nat} {n : Nat} (y : Nat) : Al a b n → Al a (y :: b) (n + 2)
  | sub {a b : List Nat} {n : Nat} (x y : Nat) : Al a b n → Al (x :: a) (y :: b) (n + sc x y)
theorem Al_nil : ∀ b : List Nat, Al sc [] b (2 * b.length)
  | [] => .nil
  | y :: b => by have := Al.ins (sc := sc) y (Al_nil b); simpa [Nat.mul_add] using this
theorem Al_nil' : ∀ b : List Nat, Al sc b [] (2 * b.length)
  | [] => .nil
  | y :: b => by have := Al.del (sc := sc) y (Al_nil' b); simpa [Nat.mul_add] using this
theorem Al_D (a b : List Nat) : Al sc a b (D sc a b) := by
  induction a generalizing b with
  | nil => rw [D_nil]; exact Al_nil sc b
  | cons x a iha =>
    induction b with
    | nil => rw [D_nil']; exact Al_nil' sc _
    | cons y b ihb =>
      rw [D_cc]
      by_cases h1 : min (D sc a (y :: b)) (D sc (x :: a) b) + 2 ≤ D sc a b + sc x y
      · rw [Nat.min_eq_left h1]
        by_cases h2 : D sc a (y :: b) ≤ D sc (x :: a) b
        · rw [Nat.min_eq_left h2]; exact .del x (iha _)
        · rw [Nat.min_eq_right (by omega)]; exact .ins y ihb
      · rw [Nat.min_eq_right (by omega)]; exact .sub x y (iha _)
theorem D_cl (x : Nat) (a b : List Nat) : D sc (x :: a) b ≤ D sc a b + 2 := by
  cases b with
  | nil => rw [D_nil', D_nil']; simp; omega
  | cons y b => rw [D_cc]; omega
theorem D_cr (y : Nat) (a b : List Nat) : D sc a (y :: b) ≤ D sc a b + 2 := by
  cases a with
  | nil => rw [D_nil, D_nil]; simp; omega
  | cons x a => rw [D_cc]; omega
theorem D_le {a b : List Nat} {n : Nat} (h : Al sc a b n) : D sc a b ≤ n := by
  induction h with
  | nil => simp [D]
  | del x _ ih => exact Nat.le_trans (D_cl sc x _ _) (by omega)
  | ins y _ ih => exact Nat.le_trans (D_cr sc y _ _) (by omega)
  | sub x y _ ih => rw [D_cc]; omega
theorem Al.append {a b a' b' : List Nat} {n n' : Nat} (h : Al sc a b n) (h' : Al sc a' b' n') : Al sc (a ++ a') (b ++ b') (n + n') := by
  induction h with
  | nil => simpa using h'
  | del x _ ih => have := Al.del (sc := sc) x ih; rw [Nat.add_right_comm]; exact this
  | ins y _ ih => have := Al.ins (sc := sc) y ih; rw [Nat.add_right_comm]; exact this
  | sub x y _ ih => have := Al.sub (sc := sc) x y ih; rw [Nat.add_right_comm]; exact this
theorem Al.rev {a b : List Nat} {n : Nat} (h : Al sc a b n) : Al sc a.reverse b.reverse n := by
  induction h with
  | nil => exact .nil
  | del x _ ih => have := Al.append sc ih (Al.del (sc := sc) x .nil); simpa using this
  | ins y _ ih => have := Al.append sc ih (Al.ins (sc := sc) y .nil); simpa using this
  | sub x y _ ih => have := Al.append sc ih (Al.sub (sc := sc) x y .nil); simpa using this
theorem D_rev (a b : List Nat) : D sc a.reverse b.reverse = D sc a b := by
  refine Nat.le_antisymm (D_le sc (Al.rev sc (Al_D sc a b))) ?_
  have := D_le sc (Al.rev sc (Al_D sc a.reverse b.reverse))
  simpa using this
theorem D_snoc (a b : List Nat) (x y : Nat) : D sc (a ++ [x]) (b ++ [y]) = min (min (D sc a (b ++ [y])) (D sc (a ++ [x]) b) + 2) (D sc a b + sc x y) := by
  rw [← D_rev sc (a ++ [x]), ← D_rev sc a (b ++ [y]), ← D_rev sc (a ++ [x]) b, ← D_rev sc a b]
  simp only [List.reverse_append, List.reverse_cons, List.reverse_nil, List.nil_append, List.cons_append]
  rw [D_cc]
variable (sym : ∀ x y, sc x y = sc y x)
include sym in
theorem Al.symm {a b : List Nat} {n : Nat} (h : Al sc a b n) : Al sc b a n := by
  induction h with
  | nil => exact .nil
  | del x _ ih => exact .ins x ih
  | ins y _ ih => exact .del y ih
  | sub x y _ ih => rw [sym x y]; exact .sub y x ih
include sym in
theorem D_comm (a b : List Nat) : D sc a b = D sc b a :=
  Nat.le_antisymm (D_le sc (Al.symm sc sym (Al_D sc b a))) (D_le sc (Al.symm sc sym (Al_D sc a b)))
theorem D_dl (y : Nat) (a b : List Nat) : D sc a b ≤ D sc a (y :: b) + 2 := by
  induction a generalizing b y with
  | nil => rw [D_nil, D_nil]; simp; omega
  | cons x a ih =>
    rw [D_cc]
    have h1 := D_cl sc x a b
    have h2 := ih y b
    omega
theorem D_dr (x : Nat) (a b : List Nat) : D sc a b ≤ D sc (x :: a) b + 2 := by
  induction b generalizing a x with
  | nil => rw [D_nil', D_nil']; simp; omega
  | cons y b ih =>
    rw [D_cc]
    have h1 := D_cr sc y a b
    have h2 := ih x a
    omega
variable (s0 : ∀ x, sc x x = 0)
include s0 in
theorem D_can (x : Nat) (a b : List Nat) : D sc (x :: a) (x :: b) = D sc a b := by
  rw [D_cc, s0]
  have h1 := D_dl sc x a b
  have h2 := D_dr sc x a b
  omega
include s0 in
theorem D_pre (c a b : List Nat) : D sc (c ++ a) (c ++ b) = D sc a b := by
  induction c with
  | nil => rfl
  | cons x c ih => rw [List.cons_append, List.cons_append, D_can sc s0, ih]
include s0 in
theorem D_suf (a b c : List Nat) : D sc (a ++ c) (b ++ c) = D sc a b := by
  rw [← D_rev sc (a ++ c), List.reverse_append, List.reverse_append, D_pre sc s0, D_rev]
include s0 in
theorem D_self (a : List Nat) : D sc a a = 0 := by
  have := D_pre sc s0 a [] []
  simpa [D_nil] using this
theorem D_len (a b : List Nat) : 2 * b.length ≤ D sc a b + 2 * a.length := by
  have h := Al_D sc a b
  generalize D sc a b = n at h
  induction h with
  | nil => simp
  | del x _ ih => simp; omega
  | ins y _ ih => simp; omega
  | sub x y _ ih => simp; omega
/-- any road crosses the border between b₁ and b₂ -/
theorem Al.cross {a b : List Nat} {n : Nat} (h : Al sc a b n) : ∀ b₁ b₂, b = b₁ ++ b₂ → ∃ a₁ a₂ n₁ n₂, a = a₁ ++ a₂ ∧ n = n₁ + n₂ ∧ Al sc a₁ b₁ n₁ ∧ Al sc a₂ b₂ n₂ := by
  induction h with
  | nil => intro b₁ b₂ e; obtain ⟨rfl, rfl⟩ := List.append_eq_nil_iff.mp e.symm; exact ⟨[], [], 0, 0, rfl, rfl, .nil, .nil⟩
  | del x _ ih =>
    intro b₁ b₂ e
    obtain ⟨a₁, a₂, n₁, n₂, e1, e2, h1, h2⟩ := ih b₁ b₂ e
    exact ⟨x :: a₁, a₂, n₁ + 2, n₂, by rw [e1]; rfl, by omega, .del x h1, h2⟩
  | @ins a b n y hab ih =>
    intro b₁ b₂ e
    cases b₁ with
    | nil => exact ⟨[], a, 0, n + 2, rfl, by omega, .nil, by rw [← show y :: b = b₂ from e]; exact .ins y hab⟩
    | cons z b₁ =>
      rw [List.cons_append] at e
      injection e with e1 e2
      obtain ⟨a₁, a₂, n₁, n₂, e3, e4, h1, h2⟩ := ih b₁ b₂ e2
      exact ⟨a₁, a₂, n₁ + 2, n₂, e3, by omega, by rw [← e1]; exact .ins y h1, h2⟩
  | @sub a b n x y hab ih =>
    intro b₁ b₂ e
    cases b₁ with
    | nil => exact ⟨[], x :: a, 0, n + sc x y, rfl, by omega, .nil, by rw [← show y :: b = b₂ from e]; exact .sub x y hab⟩
    | cons z b₁ =>
      rw [List.cons_append] at e
      injection e with e1 e2
      obtain ⟨a₁, a₂, n₁, n₂, e3, e4, h1, h2⟩ := ih b₁ b₂ e2
      exact ⟨x :: a₁, a₂, n₁ + sc x y, n₂, by rw [e3]; rfl, by omega, by rw [← e1]; exact .sub x y h1, h2⟩
theorem D_cross (a b₁ b₂ : List Nat) : ∃ i, i ≤ a.length ∧ D sc (a.take i) b₁ ≤ D sc a (b₁ ++ b₂) := by
  obtain ⟨a₁, a₂, n₁, n₂, e1, e2, h1, _⟩ := Al.cross sc (Al_D sc a (b₁ ++ b₂)) b₁ b₂ rfl
  refine ⟨a₁.length, by rw [e1]; simp, ?_⟩
  have : a.take a₁.length = a₁ := by rw [e1]; simp
  rw [this]
  have := D_le sc h1
  omega
variable (s2 : ∀ x y, sc x y ≤ 2)
include s2 in
theorem D_first (x y : Nat) (b : List Nat) : D sc [x] (y :: b) ≤ D sc [] (y :: b) := by
  refine Nat.le_trans (D_le sc (Al.sub x y (Al_nil sc b))) ?_
  have := s2 x y
  rw [D_nil]; simp; omega
include s2 in
/-- a row that is above the bound throughout bars every road -/
theorem D_row {a b : List Nat} {j : Nat} {m : Int} (ha : a ≠ []) (hj : 0 < j) (hjb : j ≤ b.length) (h : ∀ i, i < a.length → m < (D sc (a.take (i + 1)) (b.take j) : Nat)) : m < (D sc a b : Nat) := by
  obtain ⟨i, hi, hd⟩ := D_cross sc a (b.take j) (b.drop j)
  rw [List.take_append_drop] at hd
  cases i with
  | succ i => have := h i (by omega); omega
  | zero =>
    have h0 := h 0 (by cases a <;> simp_all)
    cases a with
    | nil => exact absurd rfl ha
    | cons x a =>
      cases hb : b.take j with
      | nil =>
        have : (b.take j).length = 0 := by rw [hb]; rfl
        rw [List.length_take] at this; omega
      | cons y c =>
        rw [hb] at h0 hd
        have := D_first sc s2 x y c
        simp only [List.take_zero, List.take_succ_cons] at h0 hd
        omega
theorem D_lower (φ : Nat → Nat) (h2 : ∀ x, φ x ≤ 2) {u v : List Nat} (h : ∀ x ∈ u, ∀ y ∈ v, φ x ≤ sc x y) : (u.map φ).sum ≤ D sc u v := by
  have hA := Al_D sc u v
  generalize D sc u v = n at hA
  induction hA with
  | nil => simp
  | del x _ ih =>
    have := ih fun x hx y hy => h x (.tail _ hx) y hy
    have := h2 x
    simp; omega
  | ins y _ ih =>
    have := ih fun x hx y hy => h x hx y (.tail _ hy)
    omega
  | sub x y _ ih =>
    have := ih fun x hx y hy => h x (.tail _ hx) y (.tail _ hy)
    have := h x (.head _) y (.head _)
    simp; omega
theorem D_app (a b a' b' : List Nat) : D sc (a ++ a') (b ++ b') ≤ D sc a b + D sc a' b' := D_le sc (Al.append sc (Al_D sc a b) (Al_D sc a' b'))
theorem D_upper (f g : Nat → List Nat) (cost : Nat → Nat) : ∀ (t : List Nat), (∀ c ∈ t, D sc (f c) (g c) ≤ cost c) → D sc (t.flatMap f) (t.flatMap g) ≤ (t.map cost).sum
  | [], _ => by simp [D_nil]
  | c :: t, h => by
    have h1 := h c (.head _)
    have h2 := D_upper f g cost t fun c hc => h c (.tail _ hc)
    have h3 := D_app sc (f c) (g c) (t.flatMap f) (t.flatMap g)
    simp only [List.flatMap_cons, List.map_cons, List.sum_cons]
    omega
/-- the word with p behind it and the same with q ahead of it -/
theorem D_shift {w : List Nat} {p q : Nat} (sym : ∀ x y, sc x y = sc y x) (hw : w ≠ []) (hp : ∀ y ∈ w, sc p y = 2) (hq : ∀ y ∈ w, sc y q = 2) (hpq : sc p q = 2) (s0 : ∀ x, sc x x = 0) : D sc (w ++ [p]) (q :: w) = 4 := by
  refine Nat.le_antisymm ?_ ?_
  · have h1 : Al sc w w (D sc w w) := Al_D sc w w
    rw [D_self sc s0] at h1
    have h2 : Al sc (w ++ [p]) (w ++ []) (0 + (0 + 2)) := Al.append sc h1 (.del p .nil)
    rw [List.append_nil] at h2
    exact D_le sc (.ins q h2)
  · obtain ⟨a₁, a₂, n₁, n₂, e1, e2, h1, h2⟩ := Al.cross sc (Al_D sc (w ++ [p]) (q :: w)) [q] w rfl
    have l1 := D_le sc h1
    have l2 := D_le sc h2
    rw [e2]
    have b1 : 2 ≤ D sc a₁ [q] := by
      rw [D_comm sc sym]
      have := D_lower sc (fun _ => 2) (fun _ => Nat.le_refl _) (u := [q]) (v := a₁) (fun x hx y hy => by
        rw [List.mem_singleton.mp hx, sym]
        have : y ∈ w ++ [p] := by rw [e1]; exact List.mem_append_left _ hy
        rcases List.mem_append.mp this with h | h
        · rw [hq y h]; exact Nat.le_refl _
        · rw [List.mem_singleton.mp h, hpq]; exact Nat.le_refl _)
      simpa using this
    have b2 : 2 ≤ D sc a₂ w := by
      rcases List.eq_nil_or_concat a₂ with rfl | ⟨a₃, z, rfl⟩
      · rw [D_nil]; cases w with
        | nil => exact absurd rfl hw
        | cons x w => simp; omega
      · have hz : z = p := by
          have : (w ++ [p]).getLast? = (a₁ ++ (a₃ ++ [z])).getLast? := by rw [e1]; simp
          simp at this; exact this.symm
        subst hz
        have := D_lower sc (fun x => if x = z then 2 else 0) (fun x => by split <;> omega) (u := a₃ ++ [z]) (v := w) (fun x hx y hy => by
          split
          · rename_i e; rw [e, hp y hy]; exact Nat.le_refl _
          · exact Nat.zero_le _)
        simp at this
        simp
        omega
    omega
/-- what a call may tell: the distance, or that both it and the distance are beyond the bound -/
def LevOk (a b : List Nat) (mc r : Int) : Prop := r = (D sc a b : Nat) ∨ (mc < r ∧ mc < (D sc a b : Nat))
end
end Mine
open PySem PySem.W PyProof.Rows
set_option Elab.async false
set_option maxRecDepth 100000
set_option maxHeartbeats 8000000
namespace Mine
open_top hd for PySem.Challenge.rw_pk0081_01
end Mine
open PySem PySem.W PyProof.Rows PySem.Calls
set_option Elab.async false
set_option maxRecDepth 100000
set_option maxHeartbeats 4000000
namespace Mine
noncomputable abbrev KK (w : World) : Frag := Mine.hd.heap_39 w.params
abbrev St (S : Shared) (h : Heap) (t : Nat) : Shared := ⟨h, S.gens, S.drawn, t, S.os⟩
def Grow (h h' : Heap) : Prop := ∀ b o, h.get? b = some o → h'.get? b = some o
theorem Grow.refl (h : Heap) : Grow h h := fun _ _ e => e
theorem Grow.trans {a b c : Heap} (x : Grow a b) (y : Grow b c) : Grow a c := fun p o e => y p o (x p o e)
theorem Grow.push (h : Heap) (o : Obj) : Grow h (h.push o) := fun _ _ e => Heap.get?_push_of_some _ e
theorem Grow.lst {h h' : Heap} {a : Nat} {xs : Array Value} (g : Grow h h') (x : h.IsList a xs) : h'.IsList a xs :=
  let ⟨o, e, r⟩ := x; ⟨o, g _ _ e, r⟩
theorem Grow.cell {h h' : Heap} {a : Nat} {v : Option Value} (g : Grow h h') (x : h.IsCell a v) : h'.IsCell a v :=
  let ⟨o, e, r⟩ := x; ⟨o, g _ _ e, r⟩
theorem Grow.ns {h h' : Heap} {a : Nat} {m : Str → Option Value} (g : Grow h h') (x : h.Ns a m) : h'.Ns a m := x.keeps g
theorem Grow.fr {h₀ h h' : Heap} {L : Nat} {m : Str → Option Value} (g : Grow h h') (F : Fr h₀ L h m) : Fr h₀ L h' m :=
  ⟨g.ns F.ns, fun b o e => g _ _ (F.keep b o e), F.above⟩
structure OkA (n : Nat) (A : Around) : Prop where
  hd : A.handled = none
  dp : A.depth ≤ 301 + n
  un : A.units ≤ 4 + 10 * n
theorem OkA.mono {n m : Nat} {A : Around} (x : OkA n A) (h : n ≤ m := by omega) : OkA m A :=
  ⟨x.hd, Nat.le_trans x.dp (by omega), Nat.le_trans x.un (by omega)⟩
theorem OkA.deeper {n : Nat} {A : Around} {env : Env} (x : OkA n A) : OkA (n + 1) (A.deeper env) :=
  ⟨x.hd, by have := x.dp; show A.depth + 1 ≤ _; omega, by have := x.un; show A.units + 3 ≤ _; omega⟩
theorem OkA.room {n : Nat} {A : Around} (x : OkA n A) (h : n ≤ 100 := by omega) : A.depth < recursionLimit := by
  have := x.dp; show A.depth < 1000; omega
theorem OkA.units {n : Nat} {A : Around} (x : OkA n A) (h : n ≤ 100 := by omega) : A.units < cLine := by
  have := x.un; show A.units < 9900; omega
/-- what lasts of the top -/
structure Gl (w : World) (mg mb : Str → Option Value) (h : Heap) : Prop where
  k : (KK w).In h
  g : h.Ns mainGlobals mg
  b : h.Ns builtinsNs mb
  nl : h.NoLimit
  fr : mg "len" = none ∧ mg "range" = none ∧ mg "list" = none ∧ mg "sum" = none ∧ mg "min" = none
  bi : ∀ x : Str, x ≠ "__name__" → mb x = bootBuiltins x
theorem Gl.grow {w : World} {mg mb : Str → Option Value} {h h' : Heap} (G : Gl w mg mb h) (g : Grow h h') : Gl w mg mb h' :=
  ⟨fun a o e => g _ _ (G.k a o e), g.ns G.g, g.ns G.b, G.nl.keeps g, G.fr, G.bi⟩
abbrev PG : Program := PySem.Challenge.rw_pk0081_01.row.prog
/-- the tree ends, by no exception, in Q; it changes the heap and the count of marks alone -/
structure W (S : Shared) (w : World) (A : Around) {α : Type} (t : Sem α) (Q : α → Heap → Prop) (h : Heap) : Prop where
  ok : ∀ tk, wpAny (model PG w) A t (fun v s' => ∃ h' tk', s' = St S h' tk' ∧ Q v h') (fun _ _ => False) (St S h tk)
section
variable {S : Shared} {w : World} {A : Around} {h h₀ : Heap} {env : Env} {L : Nat} {m mg mb : Str → Option Value}
theorem W.run {α : Type} {t : Sem α} {Q : α → Heap → Prop} (x : W S w A t Q h) {Q' : α → Shared → Prop} {E' : Value → Shared → Prop} {tk : Nat}
    (k : ∀ v h' tk', Q v h' → Q' v (St S h' tk')) : wpAny (model PG w) A t Q' E' (St S h tk) :=
  wpAny_mono (x.ok tk) (fun v _ ⟨h', tk', e, q⟩ => e ▸ k v h' tk' q) (fun _ _ f => f.elim)
theorem W.mono {α : Type} {t : Sem α} {Q Q' : α → Heap → Prop} (x : W S w A t Q h) (k : ∀ v h', Q v h' → Q' v h') : W S w A t Q' h :=
  ⟨fun _ => x.run fun v h' tk' q => ⟨h', tk', rfl, k v h' q⟩⟩
theorem W.pure {α : Type} {a : α} {Q : α → Heap → Prop} (q : Q a h) : W S w A (Pure.pure a) Q h := ⟨fun tk => wpAny_pure ⟨h, tk, rfl, q⟩⟩
theorem W.bind {α β : Type} {t : Sem α} {f : α → Sem β} {Q : β → Heap → Prop} (q : W S w A t (fun a h' => W S w A (f a) Q h') h) : W S w A (t >>= f) Q h :=
  ⟨fun _ => wpAny_bind (q.run fun _ _ _ q' => q'.ok _)⟩
theorem rInt {i k pos} {Q : Value → Heap → Prop} (q : ∀ tk, Q (.int i tk) h) : W S w A (eval (.Constant (.int i) k pos) env) Q h := ⟨fun _ => wpAny_Constant_int ⟨_, _, rfl, q _⟩⟩
theorem rStr {x k pos} {Q : Value → Heap → Prop} (q : ∀ tk, Q (.str x tk) h) : W S w A (eval (.Constant (.str x) k pos) env) Q h := ⟨fun _ => wpAny_Constant_str ⟨_, _, rfl, q _⟩⟩
theorem rNone {k pos} {Q : Value → Heap → Prop} (q : Q .none h) : W S w A (eval (.Constant .none k pos) env) Q h := ⟨fun _ => wpAny_Constant_none ⟨_, _, rfl, q⟩⟩
theorem rBool {b k pos} {Q : Value → Heap → Prop} (q : Q (.bool b) h) : W S w A (eval (.Constant (.bool b) k pos) env) Q h := ⟨fun _ => wpAny_Constant_bool ⟨_, _, rfl, q⟩⟩
theorem rLoc {x : Str} {pos : Pos} {v : Value} {Q : Value → Heap → Prop} (F : Fr h₀ L h m) (hv : m x = some v) (q : Q v h) (hL : env.locals = L := by rfl)
    (hk : env.scope.kind = .function := by rfl) (hx : env.kindOf x = some .local := by rfl) (hd : (x == ("__debug__" : Str)) = false := by decide) :
    W S w A (eval (.Name x pos) env) Q h := ⟨fun _ => wpAny_Name (wpAny_loadName_local hk hx (hL ▸ F.ns) hv ⟨_, _, rfl, q⟩) hd⟩
theorem rGlob {x : Str} {pos : Pos} {v : Value} {Q : Value → Heap → Prop} (G : Gl w mg mb h) (e : nsIn (KK w) mainGlobals x = some (some v)) (q : Q v h)
    (hg : env.globals = mainGlobals := by rfl) (hk : env.scope.kind = .function := by rfl) (hx : env.kindOf x = some .globalImplicit := by rfl) (hd : (x == ("__debug__" : Str)) = false := by decide) :
    W S w A (eval (.Name x pos) env) Q h :=
  ⟨fun _ => Name_function_global hk hx (loadGlobal_global (env := env) (by rw [hg]; exact G.g) (mg_of G.k G.g e) ⟨_, _, rfl, q⟩) hd⟩
theorem rBlt {x : Str} {pos : Pos} {v : Value} {Q : Value → Heap → Prop} (G : Gl w mg mb h) (hf : mg x = none) (hb : bootBuiltins x = some v) (q : Q v h)
    (hne : x ≠ "__name__" := by decide) (hg : env.globals = mainGlobals := by rfl) (hgb : env.builtins = builtinsNs := by rfl) (hk : env.scope.kind = .function := by rfl) (hx : env.kindOf x = some .globalImplicit := by rfl) (hd : (x == ("__debug__" : Str)) = false := by decide) :
    W S w A (eval (.Name x pos) env) Q h :=
  ⟨fun _ => Name_function_global hk hx (loadGlobal_builtin (env := env) (by rw [hg]; exact G.g) hf (by rw [hgb]; exact G.b) ((G.bi x hne).trans hb) ⟨_, _, rfl, q⟩) hd⟩
theorem rStoreL {x : Str} {v : Value} {Q : Unit → Heap → Prop} (F : Fr h₀ L h m)
    (q : ∀ h', Fr h₀ L h' (fun y => if y = x then some v else m y) → Heap.SameBut L h h' → Q () h') (hL : env.locals = L := by rfl)
    (hk : env.scope.kind = .function := by rfl) (hx : env.kindOf x = some .local := by rfl) :
    W S w A (storeName env x v) Q h := by
  subst hL
  exact ⟨fun _ => wpAny_storeName_local hx F.ns (fun h' hn hs => ⟨_, _, rfl, q h' (F.set hn hs) hs⟩) (by rw [hk]; rfl)⟩
theorem rBin {l r : Expr} {op : Operator} {pos : Pos} {Q : Value → Heap → Prop} (q : W S w A (eval l env) (fun a h₁ => W S w A (eval r env) (fun b h₂ => W S w A (binaryOp op a b) Q h₂) h₁) h) :
    W S w A (eval (.BinOp l op r pos) env) Q h := ⟨fun _ => wpAny_BinOp (q.run fun _ _ _ q₁ => q₁.run fun _ _ _ q₂ => q₂.ok _)⟩
theorem rCmp {l r : Expr} {op : CmpOp} {pos : Pos} {Q : Value → Heap → Prop} (q : W S w A (eval l env) (fun a h₁ => W S w A (eval r env) (fun b h₂ => W S w A (compareOp op a b) Q h₂) h₁) h)
    (hm : behindInMarks op r = false := by with_unfolding_all rfl) : W S w A (eval (.Compare l [op] [r] pos) env) Q h := ⟨fun _ => wpAny_Compare1 (q.run fun _ _ _ q₁ => q₁.run fun _ _ _ q₂ => q₂.ok _) hm⟩
theorem rTCmp {l r : Expr} {op : CmpOp} {pos : Pos} {wh : Sem Value} {Q : Bool → Heap → Prop} (q : W S w A (eval l env) (fun a h₁ => W S w A (eval r env) (fun b h₂ => W S w A (compareOp op a b) (fun c h₃ => W S w A (truthy c) Q h₃) h₂) h₁) h)
    (hm : behindInMarks op r = false := by with_unfolding_all rfl) : W S w A (isTrue (.Compare l [op] [r] pos) env wh) Q h := ⟨fun _ => wpAny_isTrue_Compare1 (q.run fun _ _ _ q₁ => q₁.run fun _ _ _ q₂ => q₂.run fun _ _ _ q₃ => q₃.ok _) hm⟩
theorem rTBool {b : Bool} {Q : Bool → Heap → Prop} (q : Q b h) : W S w A (truthy (.bool b)) Q h := ⟨fun _ => wpAny_truthy_bool ⟨_, _, rfl, q⟩⟩
theorem rUn {op : UnaryOp} {x : Expr} {pos : Pos} {Q : Value → Heap → Prop} (q : W S w A (eval x env) (fun v h₁ => W S w A (unaryOp op v) Q h₁) h) : W S w A (eval (.UnaryOp op x pos) env) Q h :=
  ⟨fun _ => wpAny_UnaryOp (q.run fun _ _ _ q₁ => q₁.ok _)⟩
theorem rSub {value slice : Expr} {pos : Pos} {Q : Value → Heap → Prop} (q : W S w A (eval value env) (fun o h₁ => W S w A (eval slice env) (fun i h₂ => W S w A (subscriptTail value slice o i) Q h₂) h₁) h) :
    W S w A (eval (.Subscript value slice pos) env) Q h := ⟨fun _ => Subscript_ (q.run fun _ _ _ q₁ => q₁.run fun _ _ _ q₂ => q₂.ok _)⟩
theorem rIf {test : Expr} {body orelse : List Stmt} {pos : Pos} {Q : Flow → Heap → Prop}
    (q : W S w A (isTrue test env (eval test env)) (fun b h₂ => (b = true → W S w A (execs body env) Q h₂) ∧ (b = false → W S w A (execs orelse env) Q h₂)) h) :
    W S w A (exec (.If test body orelse pos) env) Q h :=
  ⟨fun _ => wpAny_If (q.run fun b h₂ tk' q₂ => by cases b; exact (q₂.2 rfl).ok _; exact (q₂.1 rfl).ok _)⟩
/-- behind one statement: the rest, or the end -/
def Nx (S : Shared) (w : World) (A : Around) (env : Env) (rest : List Stmt) (Q : Flow → Heap → Prop) (f : Flow) (h : Heap) : Prop :=
  match f with | .next => W S w A (execs rest env) Q h | f => Q f h
theorem rSeq {st : Stmt} {rest : List Stmt} {Q : Flow → Heap → Prop} (q : W S w A (exec st env) (Nx S w A env rest Q) h) : W S w A (execs (st :: rest) env) Q h :=
  ⟨fun _ => wpAny_execs_cons (q.run fun f h' tk' q' => by cases f <;> first | exact W.ok q' _ | exact ⟨_, _, rfl, q'⟩)⟩
theorem rNil {Q : Flow → Heap → Prop} (q : Q .next h) : W S w A (execs [] env) Q h := ⟨fun _ => wpAny_execs_nil ⟨_, _, rfl, q⟩⟩
theorem nx_next {rest : List Stmt} {Q : Flow → Heap → Prop} (q : W S w A (execs rest env) Q h) : Nx S w A env rest Q .next h := q
theorem nx_ret {rest : List Stmt} {v : Value} {Q : Flow → Heap → Prop} (q : Q (.ret v) h) : Nx S w A env rest Q (.ret v) h := q
theorem rRet {e : Expr} {pos : Pos} {Q : Flow → Heap → Prop} (q : W S w A (eval e env) (fun v h' => Q (.ret v) h') h) : W S w A (exec (.Return (some e) pos) env) Q h :=
  ⟨fun _ => wpAny_Return_some (q.run fun _ _ _ q' => ⟨_, _, rfl, q'⟩)⟩
theorem rAsgN {x : Str} {pos' pos : Pos} {value : Expr} {Q : Flow → Heap → Prop} (q : W S w A (eval value env) (fun v h₁ => W S w A (storeName env x v) (fun _ h₂ => Q .next h₂) h₁) h)
    (hs : swapsWith value (some (.Name x pos')) pos.line env = Pure.pure false := by rfl) : W S w A (exec (.Assign [.Name x pos'] value pos) env) Q h :=
  ⟨fun _ => wpAny_Assign_Name (q.run fun _ _ _ q₁ => q₁.run fun _ _ _ q₂ => ⟨_, _, rfl, q₂⟩) hs⟩
theorem rEqStr {x y : Str} {a b : Tok} {Q : Value → Heap → Prop} (q : Q (.bool (x == y)) h) : W S w A (compareOp .Eq (.str x a) (.str y b)) Q h := ⟨fun _ => eq_str ⟨_, _, rfl, q⟩⟩
theorem rNeStr {x y : Str} {a b : Tok} {Q : Value → Heap → Prop} (q : Q (.bool (x != y)) h) : W S w A (compareOp .NotEq (.str x a) (.str y b)) Q h := ⟨fun _ => ne_str ⟨_, _, rfl, q⟩⟩
theorem abN {x : Str} {p : Pos} {name : Str} {wh : Sem Value} : attributeBase (.Name x p) name env wh = wh := rfl
theorem abC {c : Const} {k : Nat} {p : Pos} {name : Str} {wh : Sem Value} : attributeBase (.Constant c k p) name env wh = wh := rfl
theorem abS {c k : Expr} {p : Pos} {name : Str} {wh : Sem Value} : attributeBase (.Subscript c k p) name env wh = wh := rfl
theorem rMeth {o : Expr} {name : Str} {apos pos : Pos} {args : List Expr} {Q : Value → Heap → Prop} (hab : attributeBase o name env (eval o env) = eval o env)
    (q : W S w A (eval o env) (fun ov h₁ => W S w A (getMethod ov name (do return (← importBound o env).getD true)) (fun fx h₂ => W S w A (callWith pos fx.1 fx.2 (backTo pos (starEach args env)) []) Q h₂) h₁) h)
    (hf : methodCallForm args.length (backTo pos (starEach args env)) [] = true := by rfl) (hp : (apos.endLine == pos.line) = true := by rfl) :
    W S w A (eval (.Call (.Attribute o name apos) args [] pos) env) Q h := ⟨fun tk => by
  have e : eval (.Call (.Attribute o name apos) args [] pos) env = (do
      let ov ← attributeBase o name env (eval o env)
      standAt apos.atName
      methodCall o name apos pos env ov args.length (backTo pos (starEach args env)) []) := rfl
  rw [e, hab]
  refine wpAny_bind (q.run fun ov h₁ tk₁ q₁ => wpAny_bind (wpAny_standAt ?_))
  unfold methodCall calleeOf methodCallPos
  rw [hf, if_pos rfl]
  refine wpAny_bind (wpAny_holding (q₁.run fun fx h₂ tk₂ q₂ => ?_))
  rw [hp]
  exact wpAny_bind (wpAny_pure (q₂.ok _))⟩
theorem rGM {x : Str} {t : Tok} {name : Str} {pl : Sem Bool} {id : String} {Q : Value × List Value → Heap → Prop}
    (g : ∀ {M : Model} {A : Around} {E : Value → Shared → Prop} {s : Shared} {x : Str} {t : Tok} {pl : Sem Bool} {Q : Value × List Value → Shared → Prop}, Q (.builtin id, [.str x t]) s → wpAny M A (getMethod (.str x t) name pl) Q E s)
    (q : Q (.builtin id, [.str x t]) h) : W S w A (getMethod (.str x t) name pl) Q h := ⟨fun _ => g ⟨_, _, rfl, q⟩⟩
theorem rCM0 {pos : Pos} {id : String} {first : List Value} {Q : Value → Heap → Prop} (q : W S w A (call (.builtin id) first) Q h) :
    W S w A (callWith pos (.builtin id) first (backTo pos (starEach [] env)) []) Q h := ⟨fun _ => callWith_method0 (q.ok _)⟩
theorem rCM1 {pos : Pos} {id : String} {first : List Value} {e : Expr} {rest : List Expr} {Q : Value → Heap → Prop}
    (q : W S w A (spliced (backTo pos (starEach (e :: rest) env))) (fun vs h₁ => W S w A (call (.builtin id) (first ++ vs)) Q h₁) h)
    (h1 : starEach (e :: rest) env = (false, eval e env) :: starEach rest env := by rfl) (h2 : (backTo pos (starEach rest env)).any (·.1) = false := by rfl) :
    W S w A (callWith pos (.builtin id) first (backTo pos (starEach (e :: rest) env)) []) Q h := ⟨fun _ => callWith_method1 (q.run fun _ _ _ q₁ => q₁.ok _) h1 h2⟩
theorem rItN {pos : Pos} {Q : List Value → Heap → Prop} (q : Q [] h) : W S w A (spliced (backTo pos (starEach [] env))) Q h := ⟨fun _ => wpAny_items_nil ⟨_, _, rfl, q⟩⟩
theorem rItC {pos : Pos} {e : Expr} {rest : List Expr} {Q : List Value → Heap → Prop}
    (q : W S w A (eval e env) (fun v h₁ => W S w A (spliced (backTo pos (starEach rest env))) (fun vs h₂ => Q (v :: vs) h₂) h₁) h)
    (h1 : starEach (e :: rest) env = (false, eval e env) :: starEach rest env := by rfl) : W S w A (spliced (backTo pos (starEach (e :: rest) env))) Q h :=
  ⟨fun _ => wpAny_items_cons (q.run fun _ _ _ q₁ => q₁.run fun _ _ _ q₂ => ⟨_, _, rfl, q₂⟩) h1⟩
/-- the call of a def of the text, by its place in the written part -/
theorem rCallFn {a : Nat} {fd : FuncData} {body : List Stmt} {args : List Value} {kw : List (Str × Value)} {binds : List (Str × Value)} {Q : Value → Heap → Prop} {n : Nat}
    (G : Gl w mg mb h) (O : OkA n A) (ho : (KK w).lookup a = some { cls := .type "function", data := .func fd }) (hc : codeIn (KK w) fd.code fd.qualname = true)
    (hb : fd.body = .stmts body) (hbind : ∀ tk, BindsTo (St S h tk) fd ⟨args, kw⟩ binds) (hcell : ∀ x ∈ fd.scope.names, x.2 ≠ .cell) (hloc : ∀ x ∈ binds, fd.scope.names.lookup x.1 = some .local)
    (q : ∀ h₁, Fr h h.objs.size h₁ (fun x => binds.reverse.lookup x) →
      W S w (A.deeper (callEnv fd h.objs.size a)) (execs body (callEnv fd h.objs.size a)) (fun f h' => Q (match f with | .ret v => v | _ => .none) h') h₁)
    (hn : n ≤ 100 := by omega) (hco : fd.scope.isCoroutine = false := by rfl) (hgen : fd.scope.isGenerator = false := by rfl) (hk : fd.scope.kind = .function := by rfl) :
    W S w A (call (.ref a) args kw) Q h :=
  ⟨fun tk => wpAny_call (codeAny_call_def (O.room hn) (G.k _ _ ho) rfl G.nl (codeRec_of G.k hc) hb (hbind tk) hcell hloc
    (fun h₁ hns hk₁ => (q h₁ ⟨hns, hk₁, Nat.le_refl _⟩).run fun f h' tk' q' => ⟨_, _, rfl, q'⟩) hco hgen hk)⟩
end
def bodyOf : Stmt → List Stmt
  | .FunctionDef _ _ b _ _ _ _ _ _ _ => b
  | _ => []
def paramsOf : Stmt → Arguments
  | .FunctionDef _ a _ _ _ _ _ _ _ _ => a
  | _ => default
def scopeOf : Stmt → Scope
  | .FunctionDef _ _ _ _ _ _ s _ _ _ => s
  | _ => default
def stm (i : Nat) : Stmt := PySem.Challenge.pw_pk0081_01.main.body.getD i (.Pass default)
def fdOf (name : String) (i : Nat) (dv kv pm : Value) (cd : Nat) : FuncData :=
  { name := Str.ofString name, qualname := Str.ofString name, params := paramsOf (stm i), body := .stmts (bodyOf (stm i)), scope := scopeOf (stm i), globals := mainGlobals, closure := [], defaults := dv, kwdefaults := kv, doc := .none, pyModule := pm, annotations := none, code := .ref cd, closureTuple := .none, builtins := builtinsNs }
def substFd : FuncData := fdOf "_substitution_cost" 4 .none .none (.str "cpy313.traceback" 187) 20
def levFd : FuncData := fdOf "_levenshtein_distance" 5 .none .none (.str "cpy313.traceback" 187) 27
theorem look_subst (w : World) : (KK w).lookup 21 = some { cls := .type "function", data := .func substFd } := by kernel_rfl
theorem look_lev (w : World) : (KK w).lookup 28 = some { cls := .type "function", data := .func levFd } := by kernel_rfl
theorem gMOVE (w : World) : nsIn (KK w) mainGlobals "_MOVE_COST" = some (some (.int 2 191)) := by kernel_rfl
theorem gCASE (w : World) : nsIn (KK w) mainGlobals "_CASE_COST" = some (some (.int 1 193)) := by kernel_rfl
theorem gMAX (w : World) : nsIn (KK w) mainGlobals "_MAX_STRING_SIZE" = some (some (.int 40 189)) := by kernel_rfl
theorem gSub (w : World) : nsIn (KK w) mainGlobals "_substitution_cost" = some (some (.ref 21)) := by kernel_rfl
theorem gLev (w : World) : nsIn (KK w) mainGlobals "_levenshtein_distance" = some (some (.ref 28)) := by kernel_rfl
theorem gBr (w : World) : nsIn (KK w) mainGlobals "bisect_right" = some (some (.ref 37)) := by kernel_rfl
theorem gBl (w : World) : nsIn (KK w) mainGlobals "bisect_left" = some (some (.ref 46)) := by kernel_rfl
theorem gRep (w : World) : nsIn (KK w) mainGlobals "replace" = some (some (.ref 53)) := by kernel_rfl
theorem gSpl (w : World) : nsIn (KK w) mainGlobals "_split_list" = some (some (.ref 60)) := by kernel_rfl
theorem gWord (w : World) : nsIn (KK w) mainGlobals "_law_word" = some (some (.ref 65)) := by kernel_rfl
end Mine
open PySem PySem.W PyProof.Rows PySem.Calls
set_option Elab.async false
set_option maxRecDepth 100000
set_option maxHeartbeats 4000000
namespace Mine
def scost (a b : Str) : Int := if a = b then 0 else if Txt.lower a = Txt.lower b then 1 else 2
section
variable {S : Shared} {w : World} {A : Around} {h h₀ : Heap} {mg mb : Str → Option Value}
theorem rLower {x : Str} {t : Tok} {Q : Value → Heap → Prop} (hx : x.length ≤ 5592405) (q : ∀ tk, Q (.str (Txt.lower x) tk) h) : W S w A (call (.builtin "str.lower") [.str x t]) Q h :=
  ⟨fun _ => SCL.lower hx fun _ => ⟨_, _, rfl, q _⟩⟩
theorem subst_call {n : Nat} {a b : Str} {ta tb : Tok} {Q : Value → Heap → Prop}
   (G : Gl w mg mb h) (O : OkA n A) (la : a.length ≤ 1) (lb : b.length ≤ 1) (hn : n ≤ 90)
   (q : ∀ h' tk, Grow h h' → Q (.int (scost a b) tk) h') :
   W S w A (call (.ref 21) [.str a ta, .str b tb]) Q h := by
  refine rCallFn (binds := [(Str.ofString "ch_a", .str a ta), (Str.ofString "ch_b", .str b tb)]) G O (look_subst w) (by kernel_rfl) rfl (fun tk => BindsTo.of_eq rfl) (by decide) (locs rfl) (fun h₁ F => ?_)
  have G₁ := G.grow F.keep
  refine rSeq (rIf ?_)
  refine rTCmp (rLoc F rfl (rLoc F rfl (rEqStr (rTBool ⟨fun hb => ?_, fun hb => ?_⟩))))
  · refine rSeq (rRet (rInt fun tk => nx_ret (nx_ret ?_)))
    have e : scost a b = 0 := by unfold scost; rw [if_pos (eq_of_beq hb)]
    exact e ▸ q h₁ tk F.keep
  · refine rNil (nx_next ?_)
    have hne : ¬ a = b := fun e => by rw [e] at hb; simp at hb
    refine rSeq (rIf ?_)
    refine rTCmp (rMeth abN (rLoc F rfl (rGM GM.lower (rCM0 (rLower (by omega) fun _ => ?_)))))
    refine rMeth abN (rLoc F rfl (rGM GM.lower (rCM0 (rLower (by omega) fun _ => rEqStr (rTBool ⟨fun hb => ?_, fun hb => ?_⟩)))))
    · refine rSeq (rRet (rGlob G₁ (gCASE w) (nx_ret (nx_ret ?_))))
      have e : scost a b = 1 := by unfold scost; rw [if_neg hne, if_pos (eq_of_beq hb)]
      exact e ▸ q h₁ _ F.keep
    · refine rNil (nx_next ?_)
      refine rSeq (rRet (rGlob G₁ (gMOVE w) (nx_ret ?_)))
      have e : scost a b = 2 := by unfold scost; rw [if_neg hne, if_neg (fun e => by rw [e] at hb; simp at hb)]
      exact e ▸ q h₁ _ F.keep
end
end Mine
open PySem PySem.W PyProof.Rows PySem.Calls
set_option Elab.async false
set_option maxRecDepth 100000
set_option maxHeartbeats 4000000
namespace Mine
/-- a text by its signs' numbers -/
abbrev T (l : List Nat) : Str := ⟨l.toArray⟩
theorem T_length (l : List Nat) : (T l).length = l.length := by show l.toArray.size = _; simp
theorem T_inj {a b : List Nat} : T a = T b ↔ a = b := ⟨fun e => by injection e with e; simpa using e, fun e => by rw [e]⟩
theorem T_beq (a b : List Nat) : (T a == T b) = decide (a = b) := by
  by_cases e : a = b
  · subst e; simp
  · rw [decide_eq_false e]; exact beq_eq_false_iff_ne.mpr fun x => e (T_inj.mp x)
theorem T_bne (a b : List Nat) : (T a != T b) = decide (a ≠ b) := by
  rw [bne, T_beq]; simp
theorem slice_to {l : List Nat} {j : Int} (h0 : 0 ≤ j) (h1 : j ≤ l.length) : Txt.slice (T l) none (some j) = T (l.take j.toNat) := by
  have := beq_iff_eq.mp (slice_closes_toL (x := T l) h0 (by rw [T_length]; exact h1))
  rw [this]; simp
theorem slice_from {l : List Nat} {i : Int} (h0 : 0 ≤ i) (h1 : i ≤ l.length) : Txt.slice (T l) (some i) none = T (l.drop i.toNat) := by
  rw [slice_from_eq (b := (l.length : Int)) h0 (by rw [T_length]; exact h1) (by rw [T_length])]
  show T _ = _
  rw [T_inj]
  show List.take _ (List.drop _ l.toArray.toList) = _
  rw [List.take_of_length_le]
  rw [List.length_drop]; simp; omega
theorem slice_to_neg {l : List Nat} {j : Int} (h0 : j < 0) (h1 : -(l.length : Int) ≤ j) : Txt.slice (T l) none (some j) = T (l.take (j + l.length).toNat) := by
  have e : Txt.slice (T l) none (some j) = Txt.slice (T l) none (some (j + l.length)) := by
    unfold Txt.slice
    rw [StrLaws.sliceIdx_neg_hi none (T l).length h0 (by rw [T_length]; exact h1), T_length]
  rw [e, slice_to (by omega) (by omega)]
theorem slice_all {l : List Nat} : Txt.slice (T l) none none = T l := by
  have e : Txt.slice (T l) none none = Txt.slice (T l) none (some (l.length : Int)) := by
    have e1 : Builtin.Str.strSliceIndices none (some (l.length : Int)) 1 (T l).length = Builtin.Str.strSliceIndices none none 1 (T l).length := by
      have a : ¬ ((l.length : Int) < 0) := by omega
      rw [T_length]
      simp only [Builtin.Str.strSliceIndices, a, if_false, show (1 : Int) > 0 by decide, if_true, Int.min_self]
      rw [Int.max_eq_right (by omega)]
    unfold Txt.slice
    rw [e1]
  rw [e, slice_to (by omega) (by omega)]; simp
theorem item_pos {l : List Nat} {i : Int} {c : Nat} (h0 : 0 ≤ i) (hc : l[i.toNat]? = some c) : Txt.charAt (T l) i = some c := by
  have hlt : i.toNat < l.length := (List.getElem?_eq_some_iff.mp hc).1
  have e : seqIndex? i (T l).length = some i.toNat := by
    unfold seqIndex?
    rw [T_length, if_neg (by omega : ¬ i < 0), if_pos (by rw [Bool.and_eq_true, decide_eq_true_eq, decide_eq_true_eq]; omega)]
  unfold Txt.charAt
  rw [e]
  show l.toArray[i.toNat]? = some c
  simpa using hc
theorem item_neg {l : List Nat} {i : Int} {c : Nat} (h0 : i < 0) (h1 : -(l.length : Int) ≤ i) (hc : l[(i + l.length).toNat]? = some c) : Txt.charAt (T l) i = some c := by
  have e : seqIndex? i (T l).length = some (i + l.length).toNat := by
    unfold seqIndex?
    rw [T_length, if_pos h0, if_pos (by rw [Bool.and_eq_true, decide_eq_true_eq, decide_eq_true_eq]; omega)]
  unfold Txt.charAt
  rw [e]
  show l.toArray[(i + l.length).toNat]? = some c
  simpa using hc
/-- what is known of a frame's locals -/
def Lo (h₀ : Heap) (L : Nat) (h : Heap) (l : List (Str × Value)) : Prop := ∃ m, Fr h₀ L h m ∧ ∀ p ∈ l, m p.1 = some p.2
def put (x : Str) (v : Value) (l : List (Str × Value)) : List (Str × Value) :=
  if l.any (fun p => p.1 == x) then l.map (fun p => if p.1 == x then (x, v) else p) else l ++ [(x, v)]
theorem mem_of_lookupS {x : Str} {v : Value} : ∀ {l : List (Str × Value)}, l.lookup x = some v → (x, v) ∈ l
  | [], e => by cases e
  | (y, u) :: r, e => by
    rw [List.lookup_cons] at e
    cases hb : x == y with
    | true => rw [hb] at e; cases e; rw [eq_of_beq hb]; exact .head _
    | false => rw [hb] at e; exact .tail _ (mem_of_lookupS e)
section
variable {S : Shared} {w : World} {A : Around} {h h' h₀ : Heap} {env : Env} {L : Nat} {m mg mb : Str → Option Value} {l l' : List (Str × Value)}
theorem Lo.keep (F : Lo h₀ L h l) : Grow h₀ h := let ⟨_, F, _⟩ := F; F.keep
theorem Lo.sub (F : Lo h₀ L h l) (s : ∀ p ∈ l', p ∈ l) : Lo h₀ L h l' := let ⟨m, F, e⟩ := F; ⟨m, F, fun p hp => e p (s p hp)⟩
theorem Lo.grow (F : Lo h₀ L h l) (g : Grow h h') : Lo h₀ L h' l := let ⟨m, F, e⟩ := F; ⟨m, g.fr F, e⟩
theorem Lo.above (F : Lo h₀ L h l) : h₀.objs.size ≤ L := let ⟨_, F, _⟩ := F; F.above
theorem Lo.lt (F : Lo h₀ L h l) : L < h.objs.size := let ⟨_, F, _⟩ := F; F.ns.lt
theorem Lo.ext {a : Nat} (F : Lo h₀ L h l) (x : Heap.ExtBut a h h') (hne : L < a) : Lo h₀ L h' l :=
  let ⟨m, F, e⟩ := F
  ⟨m, ⟨F.ns.extBut x (Nat.ne_of_lt hne), fun b o q => x b o (Nat.ne_of_lt (Nat.lt_trans (Nat.lt_of_lt_of_le (Heap.lt_size q) F.above) hne)) (F.keep b o q), F.above⟩, e⟩
theorem Lo.of {binds : List (Str × Value)} {names : List Str} (F : Fr h₀ L h (fun x => binds.reverse.lookup x)) (e : binds.map (·.1) = names) (nd : names.Nodup) : Lo h₀ L h binds := by
  refine ⟨_, F, fun p hp => ?_⟩
  have : binds.reverse.lookup p.1 = some p.2 := by
    have nd' : (binds.reverse.map (·.1)).Nodup := by rw [List.map_reverse, e]; exact List.pairwise_reverse.mpr (nd.imp fun h => Ne.symm h)
    have hm : p ∈ binds.reverse := List.mem_reverse.mpr hp
    generalize binds.reverse = r at nd' hm
    induction r with
    | nil => cases hm
    | cons a r ih =>
      rw [List.map_cons, List.nodup_cons] at nd'
      rw [List.lookup_cons]
      rcases List.mem_cons.mp hm with rfl | hm
      · simp
      · have hne : (p.1 == a.1) = false := beq_eq_false_iff_ne.mpr fun q => nd'.1 (q ▸ List.mem_map_of_mem hm)
        rw [hne]; exact ih nd'.2 hm
  exact this
theorem rL {x : Str} {pos : Pos} {v : Value} {Q : Value → Heap → Prop} (F : Lo h₀ L h l) (hv : l.lookup x = some v) (q : Q v h) (hL : env.locals = L := by rfl)
    (hk : env.scope.kind = .function := by rfl) (hx : env.kindOf x = some .local := by rfl) (hd : (x == ("__debug__" : Str)) = false := by decide) :
    W S w A (eval (.Name x pos) env) Q h := let ⟨_, F, e⟩ := F; rLoc F (e _ (mem_of_lookupS hv)) q hL hk hx hd
theorem rLn {x : Str} {v : Value} {Q : Value → Heap → Prop} (F : Lo h₀ L h l) (hv : l.lookup x = some v) (q : Q v h) (hL : env.locals = L := by rfl)
    (hk : env.scope.kind = .function := by rfl) (hx : env.kindOf x = some .local := by rfl) :
    W S w A (loadName env x) Q h := let ⟨_, F, e⟩ := F; ⟨fun _ => wpAny_loadName_local hk hx (hL ▸ F.ns) (e _ (mem_of_lookupS hv)) ⟨_, _, rfl, q⟩⟩
theorem rS {x : Str} {v : Value} {Q : Unit → Heap → Prop} (F : Lo h₀ L h l) (q : ∀ h', Lo h₀ L h' (put x v l) → Heap.SameBut L h h' → Q () h') (hL : env.locals = L := by rfl)
    (hk : env.scope.kind = .function := by rfl) (hx : env.kindOf x = some .local := by rfl) : W S w A (storeName env x v) Q h := by
  obtain ⟨m, F, e⟩ := F
  refine rStoreL F (fun h' F' hs => q h' ⟨_, F', fun p hp => ?_⟩ hs) hL hk hx
  unfold put at hp
  by_cases hp1 : p.1 = x
  · rw [if_pos hp1]
    split at hp
    · obtain ⟨p0, _, e0⟩ := List.mem_map.mp hp
      by_cases hb : p0.1 == x
      · rw [if_pos hb] at e0; rw [← e0]
      · rw [if_neg hb] at e0; rw [e0] at hb; exact absurd (beq_iff_eq.mpr hp1) hb
    · rename_i ha
      rcases List.mem_append.mp hp with h1 | h1
      · exact absurd (List.any_eq_true (p := fun p : Str × Value => p.1 == x).mpr ⟨p, h1, beq_iff_eq.mpr hp1⟩) ha
      · rw [List.mem_singleton.mp h1]
  · rw [if_neg hp1]
    split at hp
    · obtain ⟨p0, h0, e0⟩ := List.mem_map.mp hp
      by_cases hb : p0.1 == x
      · rw [if_pos hb] at e0; rw [← e0] at hp1; exact absurd rfl hp1
      · rw [if_neg hb] at e0; rw [← e0]; exact e _ h0
    · rcases List.mem_append.mp hp with h1 | h1
      · exact e _ h1
      · rw [List.mem_singleton.mp h1] at hp1; exact absurd rfl hp1
-- ints
theorem rAdd {a b : Int} {t u : Tok} {Q : Value → Heap → Prop} (q : ∀ tk, Q (.int (a + b) tk) h) : W S w A (binaryOp .Add (.int a t) (.int b u)) Q h := ⟨fun _ => add_int ⟨_, _, rfl, q _⟩⟩
theorem rSubI {a b : Int} {t u : Tok} {Q : Value → Heap → Prop} (q : ∀ tk, Q (.int (a - b) tk) h) : W S w A (binaryOp .Sub (.int a t) (.int b u)) Q h := ⟨fun _ => sub_int ⟨_, _, rfl, q _⟩⟩
theorem rMul {a b : Int} {t u : Tok} {Q : Value → Heap → Prop} (ok : IntMulOk a b) (q : ∀ tk, Q (.int (a * b) tk) h) : W S w A (binaryOp .Mult (.int a t) (.int b u)) Q h := ⟨fun _ => mul_int ⟨_, _, rfl, q _⟩ ok⟩
theorem rIAdd {a b : Int} {t u : Tok} {Q : Value → Heap → Prop} (q : ∀ tk, Q (.int (a + b) tk) h) : W S w A (inplaceOp .Add (.int a t) (.int b u)) Q h := ⟨fun _ => iadd_int ⟨_, _, rfl, q _⟩⟩
theorem rISub {a b : Int} {t u : Tok} {Q : Value → Heap → Prop} (q : ∀ tk, Q (.int (a - b) tk) h) : W S w A (inplaceOp .Sub (.int a t) (.int b u)) Q h := ⟨fun _ => isub_int ⟨_, _, rfl, q _⟩⟩
theorem rLt {a b : Int} {t u : Tok} {Q : Value → Heap → Prop} (q : Q (.bool (decide (a < b))) h) : W S w A (compareOp .Lt (.int a t) (.int b u)) Q h := ⟨fun _ => lt_int ⟨_, _, rfl, q⟩⟩
theorem rLe {a b : Int} {t u : Tok} {Q : Value → Heap → Prop} (q : Q (.bool (decide (a ≤ b))) h) : W S w A (compareOp .LtE (.int a t) (.int b u)) Q h := ⟨fun _ => le_int ⟨_, _, rfl, q⟩⟩
theorem rGt {a b : Int} {t u : Tok} {Q : Value → Heap → Prop} (q : Q (.bool (decide (b < a))) h) : W S w A (compareOp .Gt (.int a t) (.int b u)) Q h := ⟨fun _ => gt_int ⟨_, _, rfl, q⟩⟩
theorem rEqI {a b : Int} {t u : Tok} {Q : Value → Heap → Prop} (q : Q (.bool (a == b)) h) : W S w A (compareOp .Eq (.int a t) (.int b u)) Q h := ⟨fun _ => eq_int ⟨_, _, rfl, q⟩⟩
theorem rNeI {a b : Int} {t u : Tok} {Q : Value → Heap → Prop} (q : Q (.bool (a != b)) h) : W S w A (compareOp .NotEq (.int a t) (.int b u)) Q h := ⟨fun _ => ne_int ⟨_, _, rfl, q⟩⟩
theorem rNegI {a : Int} {t : Tok} {Q : Value → Heap → Prop} (q : ∀ tk, Q (.int (-a) tk) h) : W S w A (unaryOp .USub (.int a t)) Q h := ⟨fun _ => neg_int ⟨_, _, rfl, q _⟩⟩
theorem rTInt {a : Int} {t : Tok} {Q : Bool → Heap → Prop} (q : Q (a != 0) h) : W S w A (truthy (.int a t)) Q h := ⟨fun _ => P.truthy_int ⟨_, _, rfl, q⟩⟩
-- texts
theorem rTStr {x : List Nat} {t : Tok} {Q : Bool → Heap → Prop} (hx : x.length ≤ 1000) (q : Q (decide (x ≠ [])) h) : W S w A (truthy (.str (T x) t)) Q h :=
  ⟨fun _ => P.truthy_str (by rw [T_length]; omega) ⟨_, _, rfl, by
    have e : (((T x).length : Int) != 0) = decide (x ≠ []) := by
      rw [T_length]
      cases x with
      | nil => rfl
      | cons a r => simp; omega
    rw [e]; exact q⟩⟩
theorem rLenS {x : List Nat} {t : Tok} {Q : Value → Heap → Prop} (hx : x.length ≤ 1000) (q : ∀ tk, Q (.int (x.length : Int) tk) h) : W S w A (call (.builtin "len") [.str (T x) t]) Q h :=
  ⟨fun _ => P.len_str (by rw [T_length]; omega) ⟨_, _, rfl, by rw [T_length]; exact q _⟩⟩
-- tests
theorem rTVal {e : Expr} {wh : Sem Value} {Q : Bool → Heap → Prop} (q : W S w A wh (fun v h₁ => W S w A (truthy v) Q h₁) h)
    (he : PySem.isTrue e env wh = (do let v ← wh; standAt e.pos; holding [v] (truthy v))) : W S w A (PySem.isTrue e env wh) Q h :=
  ⟨fun _ => wpAny_isTrue_value (q.run fun _ _ _ q₁ => q₁.ok _) he⟩
theorem tvName {x : Str} {p : Pos} {wh : Sem Value} : PySem.isTrue (.Name x p) env wh = (do let v ← wh; standAt (Expr.Name x p).pos; holding [v] (truthy v)) := rfl
theorem tvSub {x y : Expr} {p : Pos} {wh : Sem Value} : PySem.isTrue (.Subscript x y p) env wh = (do let v ← wh; standAt (Expr.Subscript x y p).pos; holding [v] (truthy v)) := rfl
theorem tvCall {x : Expr} {y : List Expr} {z : List Keyword} {p : Pos} {wh : Sem Value} : PySem.isTrue (.Call x y z p) env wh = (do let v ← wh; standAt (Expr.Call x y z p).pos; holding [v] (truthy v)) := rfl
theorem rTNot {x : Expr} {pos : Pos} {wh : Sem Value} {Q : Bool → Heap → Prop} (q : W S w A (PySem.isTrue x env (eval x env)) (fun b h₁ => Q (!b) h₁) h) :
    W S w A (PySem.isTrue (.UnaryOp .Not x pos) env wh) Q h := ⟨fun _ => wpAny_isTrue_Not (q.run fun _ _ _ q₁ => ⟨_, _, rfl, q₁⟩)⟩
theorem rTBop {op : BoolOp} {values : List Expr} {pos : Pos} {wh : Sem Value} {Q : Bool → Heap → Prop} (q : W S w A (allTrue op values env) Q h) : W S w A (PySem.isTrue (.BoolOp op values pos) env wh) Q h :=
  ⟨fun _ => wpAny_isTrue_BoolOp (q.ok _)⟩
theorem rAndN {Q : Bool → Heap → Prop} (q : Q true h) : W S w A (allTrue .And [] env) Q h := ⟨fun _ => wpAny_allTrue_And_nil ⟨_, _, rfl, q⟩⟩
theorem rOrN {Q : Bool → Heap → Prop} (q : Q false h) : W S w A (allTrue .Or [] env) Q h := ⟨fun _ => wpAny_allTrue_Or_nil ⟨_, _, rfl, q⟩⟩
theorem rAndC {x : Expr} {rest : List Expr} {Q : Bool → Heap → Prop}
    (q : W S w A (PySem.isTrue x env (eval x env)) (fun b h₁ => (b = true → W S w A (allTrue .And rest env) Q h₁) ∧ (b = false → Q false h₁)) h) : W S w A (allTrue .And (x :: rest) env) Q h :=
  ⟨fun _ => wpAny_allTrue_And_cons (q.run fun b h₁ tk q₁ => by cases b; exact ⟨_, _, rfl, q₁.2 rfl⟩; exact (q₁.1 rfl).ok _)⟩
theorem rOrC {x : Expr} {rest : List Expr} {Q : Bool → Heap → Prop}
    (q : W S w A (PySem.isTrue x env (eval x env)) (fun b h₁ => (b = true → Q true h₁) ∧ (b = false → W S w A (allTrue .Or rest env) Q h₁)) h) : W S w A (allTrue .Or (x :: rest) env) Q h :=
  ⟨fun _ => wpAny_allTrue_Or_cons (q.run fun b h₁ tk q₁ => by cases b; exact (q₁.2 rfl).ok _; exact ⟨_, _, rfl, q₁.1 rfl⟩)⟩
theorem rOr2 {x y : Expr} {pos : Pos} {Q : Value → Heap → Prop}
    (q : W S w A (eval x env) (fun v h₁ => W S w A (truthy v) (fun b h₂ => (b = true → Q v h₂) ∧ (b = false → W S w A (eval y env) Q h₂)) h₁) h) : W S w A (eval (.BoolOp .Or [x, y] pos) env) Q h :=
  ⟨fun _ => wpAny_Or2 (q.run fun v h₁ tk q₁ => q₁.run fun b h₂ tk₂ q₂ => by cases b; exact (q₂.2 rfl).ok _; exact ⟨_, _, rfl, q₂.1 rfl⟩)⟩
theorem rAug {x : Str} {pos' pos : Pos} {op : Operator} {value : Expr} {Q : Flow → Heap → Prop}
    (q : W S w A (loadName env x) (fun old h₁ => W S w A (eval value env) (fun v h₂ => W S w A (inplaceOp op old v) (fun r h₃ => W S w A (storeName env x r) (fun _ h₄ => Q .next h₄) h₃) h₂) h₁) h) :
    W S w A (exec (.AugAssign (.Name x pos') op value pos) env) Q h :=
  ⟨fun _ => wpAny_AugAssign_Name (q.run fun _ _ _ q₁ => q₁.run fun _ _ _ q₂ => q₂.run fun _ _ _ q₃ => q₃.run fun _ _ _ q₄ => ⟨_, _, rfl, q₄⟩)⟩
-- items of texts
theorem rItS {value slice : Expr} {x : Str} {t u : Tok} {i : Int} {c : Nat} {Q : Value → Heap → Prop} (hr : fitsSsize i = true) (hc : Txt.charAt x i = some c) (q : ∀ tk, Q (.str (T [c]) tk) h)
    (hs : subscripted slice false (.str x t) (.int i u) = operate [.str x t, .int i u] (getItem (.str x t) (.int i u))) (ht : ∀ r, letTemporaryGo value (.str x t) r = Pure.pure ()) :
    W S w A (subscriptTail value slice (.str x t) (.int i u)) Q h :=
  ⟨fun _ => tail_of_ItemOn (SB.item hr (by rw [hc]; rfl) ⟨_, _, rfl, by
    have e : Txt.item x i = T [c] := by unfold Txt.item; rw [hc]; rfl
    rw [e]; exact q _⟩) hs ht⟩
theorem rSlS {value : Expr} {lower upper : Option Expr} {p pos : Pos} {Q : Value → Heap → Prop}
    (q : W S w A (eval value env) (fun o h₁ => W S w A (evalPart lower env) (fun vl h₂ => W S w A (evalPart upper env) (fun vu h₃ =>
      ∃ x t l u, o = .str x t ∧ vl = partValue l ∧ vu = partValue u ∧ x.length ≤ 1000 ∧ ∀ tk h', Grow h₃ h' → Q (.str (Txt.slice x (l.map (·.1)) (u.map (·.1))) tk) h') h₂) h₁) h)
    (ht : ∀ o r, letTemporaryGo value o r = Pure.pure () := by intro _ _; rfl) : W S w A (eval (.Subscript value (.Slice lower upper none p) pos) env) Q h :=
  ⟨fun _ => wpAny_Subscript_str_slice (q.run fun o h₁ _ q₁ => q₁.run fun vl h₂ _ q₂ => q₂.run fun vu h₃ _ q₃ => by
    obtain ⟨x, t, l, u, e1, e2, e3, e4, q⟩ := q₃
    refine ⟨x, t, l, u, e1, e2, e3, ?_⟩
    unfold sliceMade
    refine post_val_or_str (c := ((((none : Option (Int × Tok)).map (·.1)).getD 1 == 1 && (slicePicked x l u none).length == x.length) = true)) ⟨Nat.le_trans (Txt.slice_le x _ _) (Nat.le_trans e4 (by decide)), fun t' k => ⟨_, _, rfl, ?_⟩⟩
    exact q t' _ (Grow.push _ _)) ht⟩
theorem rPN {Q : Value → Heap → Prop} (q : Q .none h) : W S w A (evalPart none env) Q h := W.pure q
theorem rPS {e : Expr} {Q : Value → Heap → Prop} (q : W S w A (eval e env) Q h) : W S w A (evalPart (some e) env) Q h := q
end
end Mine
open PySem PySem.W PyProof.Rows PySem.Calls
set_option Elab.async false
set_option maxRecDepth 100000
set_option maxHeartbeats 4000000
namespace Mine
section
variable {S : Shared} {w : World} {A : Around} {h h' h₀ : Heap} {env : Env} {L : Nat} {m mg mb : Str → Option Value} {l l' : List (Str × Value)}
theorem rWhile {test : Expr} {body orelse : List Stmt} {pos : Pos} {Q : Flow → Heap → Prop} (I : Nat → Heap → Prop)
    (turn : ∀ n h, I n h → W S w A (PySem.isTrue test env (eval test env)) (fun b h₂ =>
      (b = true → W S w A (execs body env) (fun f h₃ => match f with | .next | .cont => ∃ m, m < n ∧ I m h₃ | .brk => Q .next h₃ | .ret v => Q (.ret v) h₃) h₂) ∧
      (b = false → W S w A (execs orelse env) Q h₂)) h)
    (n : Nat) (h0 : I n h) : W S w A (exec (.While test body orelse pos) env) Q h :=
  ⟨fun tk => wpAny_While (codeAny_whileLoop (fun n s => ∃ h tk, s = St S h tk ∧ I n h) (fun n s ⟨h, tk, e, hi⟩ => by
    subst e
    refine (turn n h hi).run fun b h₂ tk₂ q => ?_
    cases b with
    | false => exact (q.2 rfl).run fun f h₃ tk₃ q₃ => ⟨_, _, rfl, q₃⟩
    | true =>
      refine (q.1 rfl).run fun f h₃ tk₃ q₃ => ?_
      cases f with
      | next => obtain ⟨m, hm, hi⟩ := q₃; exact ⟨m, hm, _, _, rfl, hi⟩
      | cont => obtain ⟨m, hm, hi⟩ := q₃; exact ⟨m, hm, _, _, rfl, hi⟩
      | brk => exact ⟨_, _, rfl, q₃⟩
      | ret v => exact ⟨_, _, rfl, q₃⟩) n ⟨h, tk, rfl, h0⟩)⟩
theorem rForG {target iter : Expr} {body orelse : List Stmt} {pos : Pos} {Q : Flow → Heap → Prop}
    (q : W S w A (eval iter env) (fun x h₁ => W S w A (pyIter x) (fun it h₂ => ∃ (I : Nat → Heap → Prop) (n : Nat), (∀ v, letOwnedTupleGo target it v = Pure.pure ()) ∧ I n h₂ ∧
      ∀ n h, I n h → W S w A (pyNext it) (fun r h₃ => match r with
        | none => W S w A (execs orelse env) Q h₃
        | some v => W S w A (assign target env v) (fun _ h₄ => W S w A (execs body env) (fun f h₅ => match f with | .next | .cont => ∃ m, m < n ∧ I m h₅ | .brk => Q .next h₅ | .ret v => Q (.ret v) h₅) h₄) h₃) h) h₁) h)
    (hs : ∀ x, foldedSetIterable iter env x = Pure.pure x := by intro _; rfl) : W S w A (exec (.For target iter body orelse pos) env) Q h :=
  ⟨fun tk => wpAny_For (q.run fun x h₁ tk₁ q₁ => q₁.run fun it h₂ tk₂ q₂ => by
    obtain ⟨I, n, hl, h0, turn⟩ := q₂
    refine codeAny_forLoop (fun n s => ∃ h tk, s = St S h tk ∧ I n h) (fun n s ⟨h, tk, e, hi⟩ => ?_) n ⟨_, _, rfl, h0⟩ hl
    subst e
    refine (turn n h hi).run fun r h₃ tk₃ q => ?_
    cases r with
    | none => exact W.run q fun f h₃ tk₃ q₃ => ⟨_, _, rfl, q₃⟩
    | some v =>
      refine W.run q fun _ h₄ tk₄ q₄ => q₄.run fun f h₅ tk₅ q₅ => ?_
      cases f with
      | next => obtain ⟨m, hm, hi⟩ := q₅; exact ⟨m, hm, _, _, rfl, hi⟩
      | cont => obtain ⟨m, hm, hi⟩ := q₅; exact ⟨m, hm, _, _, rfl, hi⟩
      | brk => exact ⟨_, _, rfl, q₅⟩
      | ret v => exact ⟨_, _, rfl, q₅⟩) hs⟩
abbrev rIter (x left : Int) : Obj := { cls := .type "range_iterator", data := .fields #[rawInt x, rawInt left, rawInt 1] }
theorem rangeSize_n (n : Nat) : Builtin.Range.rangeSize 0 (n : Int) 1 = (n : Int) := by
  unfold Builtin.Range.rangeSize
  rw [if_pos (by decide)]
  split
  · rw [Int.ediv_one]; omega
  · omega
/-- for x in range(n): J i says what holds ahead of turn i; it must tell the iterator's state -/
theorem rFor {x : Str} {px : Pos} {iter : Expr} {body orelse : List Stmt} {pos : Pos} {Q : Flow → Heap → Prop} (n : Nat) (hn : n ≤ 1000) (hh : A.handled = none)
    (q : W S w A (eval iter env) (fun rv h₁ => ∃ r a b c, rv = .ref r ∧ IsRange h₁ r 0 (n : Int) 1 a b c ∧ ∃ J : Nat → Heap → Prop,
      (IsRangeIter (h₁.push (rIter 0 n)) h₁.objs.size 0 n 1 → J 0 (h₁.push (rIter 0 n))) ∧
      (∀ i h, J i h → IsRangeIter h h₁.objs.size (i : Int) ((n : Int) - i) 1) ∧
      (∀ i h h' tk, i < n → J i h → IsRangeIter h' h₁.objs.size ((i : Int) + 1) ((n : Int) - i - 1) 1 → Heap.SameBut h₁.objs.size h h' →
        W S w A (storeName env x (.int (i : Int) tk)) (fun _ h₂ => W S w A (execs body env) (fun f h₃ => match f with | .next | .cont => J (i + 1) h₃ | .brk => Q .next h₃ | .ret v => Q (.ret v) h₃) h₂) h') ∧
      (∀ h h', J n h → Heap.ExtBut h₁.objs.size h h' → W S w A (execs orelse env) Q h')) h)
    (hs : ∀ x, foldedSetIterable iter env x = Pure.pure x := by intro _; rfl) : W S w A (exec (.For (.Name x px) iter body orelse pos) env) Q h := by
  refine rForG (q.mono fun rv h₁ q₁ => ?_) hs
  obtain ⟨r, a, b, c, rfl, hr, J, h0, hJ, turn, fin⟩ := q₁
  refine ⟨fun tk => wpAny_pyIter_range hr (small_one (by omega) (by omega) (by omega) (by omega)) ⟨_, _, rfl, ?_⟩⟩
  rw [rangeSize_n]
  have hit : IsRangeIter (h₁.push (rIter 0 n)) h₁.objs.size 0 n 1 := Heap.get?_push_size _ rfl
  refine ⟨fun k h => ∃ i, i + k = n ∧ J i h, n, fun _ => rfl, ⟨0, by omega, h0 hit⟩, fun k h ⟨i, hi, hj⟩ => ?_⟩
  have it := hJ i h hj
  by_cases hk : k = 0
  · subst hk
    have : i = n := by omega
    subst this
    exact ⟨fun tk => wpAny_pyNext_range_end hh it (by omega) fun h' hx => ⟨_, _, rfl, fin h h' hj hx⟩⟩
  · refine ⟨fun tk => wpAny_pyNext_range_item it (by omega) fun h' it' hsb => ⟨_, _, rfl, ?_⟩⟩
    show W S w A (assign (.Name x px) env (.int (i : Int) _)) _ _
    refine ⟨fun tk' => wpAny_assign_Name ((turn i h h' _ (by omega) hj it' hsb).run fun _ h₂ tk₂ q₂ => ⟨_, _, rfl, q₂.mono fun f h₃ q₃ => ?_⟩)⟩
    cases f with
    | next => exact ⟨k - 1, by omega, i + 1, by omega, q₃⟩
    | cont => exact ⟨k - 1, by omega, i + 1, by omega, q₃⟩
    | brk => exact q₃
    | ret v => exact q₃
-- calls by a name
theorem rCallN {x : Str} {np pos : Pos} {args : List Expr} {Q : Value → Heap → Prop} (q : W S w A (eval (.Name x np) env) (fun f h₁ => W S w A (callWith pos f [] (backTo pos (starEach args env)) []) Q h₁) h) :
    W S w A (eval (.Call (.Name x np) args [] pos) env) Q h := ⟨fun _ => wpAny_Call_ofName (q.run fun _ _ _ q₁ => q₁.ok _)⟩
theorem rCB {pos : Pos} {id : String} {e : Expr} {rest : List Expr} {Q : Value → Heap → Prop}
    (q : W S w A (spliced (backTo pos (starEach (e :: rest) env))) (fun vs h₁ => W S w A (call (.builtin id) vs) Q h₁) h)
    (h1 : starEach (e :: rest) env = (false, eval e env) :: starEach rest env := by rfl) (h2 : (backTo pos (starEach rest env)).any (·.1) = false := by rfl) :
    W S w A (callWith pos (.builtin id) [] (backTo pos (starEach (e :: rest) env)) []) Q h := ⟨fun _ => PyProof.Rows.callWith_builtin1 (q.run fun _ _ _ q₁ => q₁.ok _) h1 h2⟩
theorem rCT {pos : Pos} {id : String} {e : Expr} {rest : List Expr} {Q : Value → Heap → Prop}
    (q : W S w A (spliced (backTo pos (starEach (e :: rest) env))) (fun vs h₁ => W S w A (call (.type id) vs) Q h₁) h)
    (h1 : starEach (e :: rest) env = (false, eval e env) :: starEach rest env := by rfl) (h2 : (backTo pos (starEach rest env)).any (·.1) = false := by rfl) :
    W S w A (callWith pos (.type id) [] (backTo pos (starEach (e :: rest) env)) []) Q h := ⟨fun _ => Pv.callWith_type1 (q.run fun _ _ _ q₁ => q₁.ok _) h1 h2⟩
theorem FnAt.grow {a : Nat} (x : FnAt a h) (g : Grow h h') : FnAt a h' := let ⟨oc, od, fd, sl, e⟩ := x; ⟨oc, od, fd, sl, g _ _ e⟩
theorem Gl.fn {a : Nat} {fd : FuncData} (G : Gl w mg mb h) (e : (KK w).lookup a = some { cls := .type "function", data := .func fd }) : FnAt a h := ⟨_, _, _, _, G.k _ _ e⟩
theorem rCF {pos : Pos} {a : Nat} {e : Expr} {rest : List Expr} {Q : Value → Heap → Prop} (X : FnAt a h)
    (q : W S w A (spliced (backTo pos (starEach (e :: rest) env))) (fun vs h₁ => FnAt a h₁ ∧ W S w A (call (.ref a) vs) Q h₁) h)
    (h1 : starEach (e :: rest) env = (false, eval e env) :: starEach rest env := by rfl) (h2 : (backTo pos (starEach rest env)).any (·.1) = false := by rfl) :
    W S w A (callWith pos (.ref a) [] (backTo pos (starEach (e :: rest) env)) []) Q h := ⟨fun _ => callWith_F X (q.run fun _ _ _ q₁ => ⟨q₁.1, q₁.2.ok _⟩) h1 h2⟩
-- lists
/-- a list of ints | of texts in the heap -/
def IL (h : Heap) (a : Nat) (ns : List Int) : Prop := ∃ vs, h.IsList a vs.toArray ∧ IntsAre vs ns
def SL (h : Heap) (a : Nat) (xs : List (List Nat)) : Prop := ∃ vs, h.IsList a vs.toArray ∧ StrsAre vs (xs.map T)
theorem IL.grow {a : Nat} {ns : List Int} (x : IL h a ns) (g : Grow h h') : IL h' a ns := let ⟨vs, x, y⟩ := x; ⟨vs, g.lst x, y⟩
theorem SL.grow {a : Nat} {ns : List (List Nat)} (x : SL h a ns) (g : Grow h h') : SL h' a ns := let ⟨vs, x, y⟩ := x; ⟨vs, g.lst x, y⟩
theorem lst_ext {a b : Nat} {xs : Array Value} (x : h.IsList a xs) (e : Heap.ExtBut b h h') (hne : a ≠ b) : h'.IsList a xs := let ⟨o, q, r⟩ := x; ⟨o, e _ _ hne q, r⟩
theorem IL.ext {a b : Nat} {ns : List Int} (x : IL h a ns) (e : Heap.ExtBut b h h') (hne : a ≠ b) : IL h' a ns := let ⟨vs, x, y⟩ := x; ⟨vs, lst_ext x e hne, y⟩
theorem SL.ext {a b : Nat} {ns : List (List Nat)} (x : SL h a ns) (e : Heap.ExtBut b h h') (hne : a ≠ b) : SL h' a ns := let ⟨vs, x, y⟩ := x; ⟨vs, lst_ext x e hne, y⟩
theorem IL.lt {a : Nat} {ns : List Int} (x : IL h a ns) : a < h.objs.size := let ⟨_, ⟨_, e, _⟩, _⟩ := x; Heap.lt_size e
theorem SL.lt {a : Nat} {ns : List (List Nat)} (x : SL h a ns) : a < h.objs.size := let ⟨_, ⟨_, e, _⟩, _⟩ := x; Heap.lt_size e
theorem IL.ne_loc {a : Nat} {ns : List Int} (x : IL h a ns) (F : Lo h₀ L h l) : a ≠ L := by
  rintro rfl
  obtain ⟨_, ⟨o, e, _, _, d⟩, _⟩ := x
  obtain ⟨m, F, _⟩ := F
  obtain ⟨o', _, _, e', d', _⟩ := F.ns
  rw [e] at e'; cases e'; rw [d] at d'; cases d'
theorem SL.ne_loc {a : Nat} {ns : List (List Nat)} (x : SL h a ns) (F : Lo h₀ L h l) : a ≠ L := by
  rintro rfl
  obtain ⟨_, ⟨o, e, _, _, d⟩, _⟩ := x
  obtain ⟨m, F, _⟩ := F
  obtain ⟨o', _, _, e', d', _⟩ := F.ns
  rw [e] at e'; cases e'; rw [d] at d'; cases d'
theorem intsAre_get : ∀ {vs : List Value} {ns : List Int}, IntsAre vs ns → ∀ {i : Nat} {n : Int}, ns[i]? = some n → ∃ t, vs[i]? = some (.int n t)
  | _, _, .nil, _, _, e => by simp at e
  | _, _, .cons n t r, 0, _, e => by simp at e; subst e; exact ⟨t, rfl⟩
  | _, _, .cons _ _ r, i + 1, _, e => by simp at e; obtain ⟨t, e⟩ := intsAre_get r e; exact ⟨t, by simpa using e⟩
theorem strsAre_get : ∀ {vs : List Value} {ns : List Str}, StrsAre vs ns → ∀ {i : Nat} {n : Str}, ns[i]? = some n → ∃ t, vs[i]? = some (.str n t)
  | _, _, .nil, _, _, e => by simp at e
  | _, _, .cons n t r, 0, _, e => by simp at e; subst e; exact ⟨t, rfl⟩
  | _, _, .cons _ _ r, i + 1, _, e => by simp at e; obtain ⟨t, e⟩ := strsAre_get r e; exact ⟨t, by simpa using e⟩
theorem intsAre_set : ∀ {vs : List Value} {ns : List Int}, IntsAre vs ns → ∀ (i : Nat) (n : Int) (t : Tok), IntsAre (vs.set i (.int n t)) (ns.set i n)
  | _, _, .nil, _, _, _ => .nil
  | _, _, .cons m u r, 0, n, t => .cons n t r
  | _, _, .cons m u r, i + 1, n, t => .cons m u (intsAre_set r i n t)
theorem intsAre_len {vs : List Value} {ns : List Int} (x : IntsAre vs ns) : vs.length = ns.length := x.length
theorem sbName {x : Str} {p : Pos} {o i : Value} : subscripted (.Name x p) false o i = operate [o, i] (getItem o i) := rfl
theorem sbBin {x y : Expr} {op : Operator} {p : Pos} {o i : Value} : subscripted (.BinOp x op y p) false o i = operate [o, i] (getItem o i) := rfl
theorem sbConst {c : Const} {k : Nat} {p : Pos} {o i : Value} : subscripted (.Constant c k p) false o i = operate [o, i] (getItem o i) := rfl
theorem sbUn {x : Expr} {op : UnaryOp} {p : Pos} {o i : Value} : subscripted (.UnaryOp op x p) false o i = operate [o, i] (getItem o i) := rfl
theorem sbSub {x y : Expr} {p : Pos} {o i : Value} : subscripted (.Subscript x y p) false o i = operate [o, i] (getItem o i) := rfl
theorem sbCall {x : Expr} {y : List Expr} {z : List Keyword} {p : Pos} {o i : Value} : subscripted (.Call x y z p) false o i = operate [o, i] (getItem o i) := rfl
theorem rGetL {value slice : Expr} {a : Nat} {xs : Array Value} {k : Int} {u : Tok} {v : Value} {Q : Value → Heap → Prop} (x : h.IsList a xs) (hk : 0 ≤ k) (hk2 : k < 2 ^ 63) (hx : xs[k.toNat]? = some v) (q : Q v h)
    (hs : subscripted slice false (.ref a) (.int k u) = operate [.ref a, .int k u] (getItem (.ref a) (.int k u))) : W S w A (subscriptTail value slice (.ref a) (.int k u)) Q h :=
  ⟨fun _ => tail_any (T := "list") (id := "list.__getitem__") x.typeIs slot_list_getitem.lookup (wpAny_getItem_list x hk hk2 hx ⟨_, _, rfl, q⟩) hs⟩
theorem rGetIL {value slice : Expr} {a : Nat} {ns : List Int} {k : Nat} {u : Tok} {n : Int} {Q : Value → Heap → Prop} (x : IL h a ns) (hk2 : k ≤ 1000) (hx : ns[k]? = some n) (q : ∀ t, Q (.int n t) h)
    (hs : subscripted slice false (.ref a) (.int (k : Int) u) = operate [.ref a, .int (k : Int) u] (getItem (.ref a) (.int (k : Int) u))) : W S w A (subscriptTail value slice (.ref a) (.int (k : Int) u)) Q h := by
  obtain ⟨vs, x, y⟩ := x
  obtain ⟨t, e⟩ := intsAre_get y hx
  exact rGetL x (by omega) (by omega) (by simpa using e) (q t) hs
theorem rGetSL {value slice : Expr} {a : Nat} {ns : List (List Nat)} {k : Nat} {u : Tok} {n : List Nat} {Q : Value → Heap → Prop} (x : SL h a ns) (hk2 : k ≤ 1000) (hx : ns[k]? = some n) (q : ∀ t, Q (.str (T n) t) h)
    (hs : subscripted slice false (.ref a) (.int (k : Int) u) = operate [.ref a, .int (k : Int) u] (getItem (.ref a) (.int (k : Int) u))) : W S w A (subscriptTail value slice (.ref a) (.int (k : Int) u)) Q h := by
  obtain ⟨vs, x, y⟩ := x
  obtain ⟨t, e⟩ := strsAre_get y (i := k) (n := T n) (by rw [List.getElem?_map, hx]; rfl)
  exact rGetL x (by omega) (by omega) (by simpa using e) (q t) hs
theorem rSetIL {a : Nat} {ns : List Int} {k : Nat} {u t : Tok} {n : Int} {Q : Unit → Heap → Prop} (x : IL h a ns) (hk : k < ns.length) (hk2 : k ≤ 1000)
    (q : ∀ h', IL h' a (ns.set k n) → Heap.SameBut a h h' → Q () h') : W S w A (setItem (.ref a) (.int (k : Int) u) (.int n t)) Q h := by
  obtain ⟨vs, x, y⟩ := x
  refine ⟨fun _ => wpAny_setItem_list x (by omega) (by omega) (by simp [intsAre_len y]; omega) fun h' x' hs => ⟨_, _, rfl, q h' ⟨vs.set k (.int n t), ?_, intsAre_set y k n t⟩ hs⟩⟩
  simpa using x'
theorem rMin {a b : Int} {t u : Tok} {Q : Value → Heap → Prop} (hh : A.handled = none) (q : ∀ h' tk, Grow h h' → Q (.int (min a b) tk) h') : W S w A (call (.builtin "min") [.int a t, .int b u]) Q h :=
  ⟨fun _ => min_two_ints hh fun h' tk hk => by
    by_cases c : b < a
    · rw [if_pos c]
      have e : min a b = b := Int.min_eq_right (by omega)
      exact ⟨_, _, rfl, e ▸ q h' u hk⟩
    · rw [if_neg c]
      have e : min a b = a := Int.min_eq_left (by omega)
      exact ⟨_, _, rfl, e ▸ q h' t hk⟩⟩
theorem rRange1 {n : Int} {t : Tok} {Q : Value → Heap → Prop} (q : ∀ h' r a b c, Grow h h' → IsRange h' r 0 n 1 a b c → Q (.ref r) h') : W S w A (call (.type "range") [.int n t]) Q h :=
  ⟨fun _ => call_range_1 ⟨_, _, rfl, q _ _ _ _ _ (Grow.push _ _) (IsRange.new ..)⟩⟩
theorem rRange3 {a b c : Int} {t u v : Tok} {Q : Value → Heap → Prop} (hc : c ≠ 0) (hp : Builtin.divisionGoesByPylong (b - a) c = false) (q : ∀ h' r t' u' v', Grow h h' → IsRange h' r a b c t' u' v' → Q (.ref r) h') :
    W S w A (call (.type "range") [.int a t, .int b u, .int c v]) Q h :=
  ⟨fun _ => call_range_3 hc ⟨_, _, rfl, q _ _ _ _ _ (Grow.push _ _) (IsRange.new ..)⟩ (Or.inl hp)⟩
theorem ints_of_range {a c : Int} : ∀ {n : Nat} {vs : List Value}, vs.length = n → (∀ (i : Nat) (v : Value), vs[i]? = some v → ∃ t, v = Value.int (a + (i : Int) * c) t) → IntsAre vs ((List.range n).map fun i : Nat => a + (i : Int) * c) := by
  intro n
  induction n with
  | zero => intro vs hl _; rw [List.length_eq_zero_iff.mp hl]; exact .nil
  | succ n ih =>
    intro vs hl hv
    have e : vs = vs.take n ++ [vs[n]'(by omega)] := by
      rw [List.take_append_getElem (by omega), ← hl]; simp
    rw [e, List.range_succ, List.map_append]
    refine IntsAre.append (ih (by simp; omega) fun i v hi => ?_) ?_
    · rw [List.getElem?_take] at hi
      split at hi
      · exact hv i v hi
      · cases hi
    · obtain ⟨t, ht⟩ := hv n (vs[n]'(by omega)) (by simp [hl])
      rw [ht]
      exact .cons _ t .nil
theorem rListRange {r : Nat} {a b c : Int} {t u v : Tok} {n : Nat} {Q : Value → Heap → Prop} (hh : A.handled = none) (hr : IsRange h r a b c t u v) (hs : Builtin.Range.small a b c = true) (hn : Builtin.Range.rangeSize a b c = n) (hl : n ≤ 1000)
    (q : ∀ h' x, Grow h h' → h.objs.size ≤ x → IL h' x ((List.range n).map fun i : Nat => a + (i : Int) * c) → Q (.ref x) h') : W S w A (call (.type "list") [.ref r]) Q h :=
  ⟨fun _ => call_list_range hh hr hs hn (by omega) fun h' tk acc' c' hk hS hacc => ⟨_, _, rfl, q h' _ hk (Nat.le_refl _) ⟨acc'.toList, ⟨_, hS, rfl, c', by simp⟩,
    ints_of_range (by simp [hacc.1]) fun i v hv => by
      have hv' : acc'[i]? = some v := by simpa using hv
      exact hacc.2 i v hv'⟩⟩⟩
theorem rList {elts : List Expr} {pos : Pos} {Q : Value → Heap → Prop} (q : W S w A (spliced (backTo pos (starEach elts env))) (fun vs h₁ => vs.length ≤ 1000 ∧ ∀ h' a, Grow h₁ h' → h₁.objs.size ≤ a → h'.IsList a vs.toArray → Q (.ref a) h') h) :
    W S w A (eval (.List elts pos) env) Q h :=
  ⟨fun _ => List_ (q.run fun vs h₁ tk₁ q₁ => wpAny_newList (s := St S h₁ tk₁) ⟨_, _, rfl, q₁.2 _ _ (Grow.push _ _) (Nat.le_refl _) ⟨_, Heap.get?_push_size _ rfl, rfl, _, rfl⟩⟩ (Nat.le_trans q₁.1 (by decide)))⟩
end
end Mine
open PySem PySem.W PyProof.Rows PySem.Calls
set_option Elab.async false
set_option maxRecDepth 100000
set_option maxHeartbeats 4000000
namespace Mine
section
variable {S : Shared} {w : World} {A : Around} {h h' h₀ : Heap} {env : Env} {L : Nat} {m mg mb : Str → Option Value} {l l' : List (Str × Value)}
theorem rSlFrom {value e : Expr} {p pos : Pos} {Q : Value → Heap → Prop}
    (q : W S w A (eval value env) (fun o h₁ => W S w A (eval e env) (fun vi h₂ => ∃ (x : List Nat) (t : Tok) (i : Nat) (u : Tok), o = .str (T x) t ∧ vi = .int (i : Int) u ∧ i ≤ x.length ∧ x.length ≤ 1000 ∧ ∀ tk h', Grow h₂ h' → Q (.str (T (x.drop i)) tk) h') h₁) h)
    (ht : ∀ o r, letTemporaryGo value o r = Pure.pure () := by intro _ _; rfl) : W S w A (eval (.Subscript value (.Slice (some e) none none p) pos) env) Q h :=
  rSlS (q.mono fun o h₁ q₁ => rPS (q₁.mono fun vi h₂ q₂ => rPN (by
    obtain ⟨x, t, i, u, rfl, rfl, hi, hx, q⟩ := q₂
    refine ⟨T x, t, some ((i : Int), u), none, rfl, rfl, rfl, by rw [T_length]; omega, fun tk h' g => ?_⟩
    show Q (.str (Txt.slice (T x) (some (i : Int)) none) tk) h'
    rw [slice_from (by omega) (by omega)]
    exact q tk h' g))) ht
theorem rSlTo {value e : Expr} {p pos : Pos} {Q : Value → Heap → Prop}
    (q : W S w A (eval value env) (fun o h₁ => W S w A (eval e env) (fun vi h₂ => ∃ (x : List Nat) (t : Tok) (i : Nat) (u : Tok), o = .str (T x) t ∧ vi = .int (i : Int) u ∧ i ≤ x.length ∧ x.length ≤ 1000 ∧ ∀ tk h', Grow h₂ h' → Q (.str (T (x.take i)) tk) h') h₁) h)
    (ht : ∀ o r, letTemporaryGo value o r = Pure.pure () := by intro _ _; rfl) : W S w A (eval (.Subscript value (.Slice none (some e) none p) pos) env) Q h :=
  rSlS (q.mono fun o h₁ q₁ => rPN (rPS (q₁.mono fun vi h₂ q₂ => by
    obtain ⟨x, t, i, u, rfl, rfl, hi, hx, q⟩ := q₂
    refine ⟨T x, t, none, some ((i : Int), u), rfl, rfl, rfl, by rw [T_length]; omega, fun tk h' g => ?_⟩
    show Q (.str (Txt.slice (T x) none (some (i : Int))) tk) h'
    rw [slice_to (by omega) (by omega)]
    exact q tk h' g))) ht
theorem rSlPost {value e : Expr} {p pos : Pos} {Q : Value → Heap → Prop}
    (q : W S w A (eval value env) (fun o h₁ => W S w A (eval e env) (fun vi h₂ => ∃ (x : List Nat) (t : Tok) (j : Nat), o = .str (T x) t ∧ ((j = 0 ∧ vi = .none) ∨ (0 < j ∧ ∃ u, vi = .int (-(j : Int)) u)) ∧ j ≤ x.length ∧ x.length ≤ 1000 ∧
      ∀ tk h', Grow h₂ h' → Q (.str (T (x.take (x.length - j))) tk) h') h₁) h)
    (ht : ∀ o r, letTemporaryGo value o r = Pure.pure () := by intro _ _; rfl) : W S w A (eval (.Subscript value (.Slice none (some e) none p) pos) env) Q h :=
  rSlS (q.mono fun o h₁ q₁ => rPN (rPS (q₁.mono fun vi h₂ q₂ => by
    obtain ⟨x, t, j, rfl, hv, hi, hx, q⟩ := q₂
    rcases hv with ⟨rfl, rfl⟩ | ⟨hj, u, rfl⟩
    · refine ⟨T x, t, none, none, rfl, rfl, rfl, by rw [T_length]; omega, fun tk h' g => ?_⟩
      show Q (.str (Txt.slice (T x) none none) tk) h'
      rw [slice_all]
      have := q tk h' g
      simpa using this
    · refine ⟨T x, t, none, some (-(j : Int), u), rfl, rfl, rfl, by rw [T_length]; omega, fun tk h' g => ?_⟩
      show Q (.str (Txt.slice (T x) none (some (-(j : Int)))) tk) h'
      rw [slice_to_neg (by omega) (by omega), show (-(j : Int) + x.length).toNat = x.length - j by omega]
      exact q tk h' g))) ht
theorem fits_small {i : Int} (h1 : -1000 ≤ i) (h2 : i ≤ 1000) : fitsSsize i = true := by
  unfold fitsSsize; simp; omega
theorem rChr {value slice : Expr} {x : List Nat} {t u : Tok} {i : Int} {c : Nat} {Q : Value → Heap → Prop} (h1 : -1000 ≤ i) (h2 : i ≤ 1000) (hc : Txt.charAt (T x) i = some c) (q : ∀ tk, Q (.str (T [c]) tk) h)
    (hs : subscripted slice false (.str (T x) t) (.int i u) = operate [.str (T x) t, .int i u] (getItem (.str (T x) t) (.int i u))) :
    W S w A (subscriptTail value slice (.str (T x) t) (.int i u)) Q h := ⟨fun tk => by
  obtain ⟨T', id, hl, hT, hg⟩ := SB.item (prog := PG) (w := w) (A := A) (E := fun _ _ => False) (s := St S h tk) (x := T x) (t := t) (u := u) (i := i) (Q := fun v s' => ∃ h' tk', s' = St S h' tk' ∧ Q v h')
    (fits_small h1 h2) (by rw [hc]; rfl) ⟨_, _, rfl, by
      have e : Txt.item (T x) i = T [c] := by unfold Txt.item; rw [hc]; rfl
      rw [e]; exact q _⟩
  exact tail_any hT hl hg hs⟩
def levS (i : Nat) : Stmt := (bodyOf (stm 5)).getD i (.Pass default)
abbrev levE (L : Nat) : Env := callEnv levFd L 28
/-- the loop over the common beginning -/
theorem lev_pre {a b : List Nat} {ta tb tc t0 : Tok} {mc : Int} {Q : Flow → Heap → Prop} (la : a.length ≤ 100) (lb : b.length ≤ 100)
    (F : Lo h₀ L h [("a", .str (T a) ta), ("b", .str (T b) tb), ("max_cost", .int mc tc), ("pre", .int 0 t0)])
    (q : ∀ h' c a' b' tk, a = c ++ a' → b = c ++ b' → Lo h₀ L h' [("a", .str (T a) ta), ("b", .str (T b) tb), ("max_cost", .int mc tc), ("pre", .int (c.length : Int) tk)] → Q .next h') :
    W S w A (exec (levS 2) (levE L)) Q h := by
  refine rWhile (fun n h => ∃ (k : Nat) (tk : Tok), k ≤ a.length ∧ k ≤ b.length ∧ a.take k = b.take k ∧ n = a.length - k ∧
    Lo h₀ L h [("a", .str (T a) ta), ("b", .str (T b) tb), ("max_cost", .int mc tc), ("pre", .int (k : Int) tk)]) (fun n h hi => ?_) a.length ⟨0, t0, by omega, by omega, by simp, by omega, F⟩
  obtain ⟨k, tk, ka, kb, e, rfl, F⟩ := hi
  have fin : ∀ h', Grow h h' → W S w A (execs [] (levE L)) Q h' := fun h' g => rNil (q h' (a.take k) (a.drop k) (b.drop k) tk (by simp) (by rw [e]; simp) (by
    rw [List.length_take, Nat.min_eq_left ka]; exact F.grow g))
  refine rTBop (rAndC (rTVal (rSlFrom (rL F rfl (rL F rfl ⟨a, ta, k, tk, rfl, rfl, ka, by omega, fun t₁ h₁ g₁ => rTStr (by simp; omega) ⟨fun ha => ?_, fun _ => ⟨nofun, fun _ => fin h₁ g₁⟩⟩⟩))) tvSub))
  have F₁ := F.grow g₁
  refine rAndC (rTVal (rSlFrom (rL F₁ rfl (rL F₁ rfl ⟨b, tb, k, tk, rfl, rfl, kb, by omega, fun t₂ h₂ g₂ => rTStr (by simp; omega) ⟨fun hb => ?_, fun _ => ⟨nofun, fun _ => fin h₂ (g₁.trans g₂)⟩⟩⟩))) tvSub)
  have F₂ := F₁.grow g₂
  have ha' : k < a.length := by simp at ha; omega
  have hb' : k < b.length := by simp at hb; omega
  have ea : Txt.charAt (T a) (k : Int) = some a[k] := item_pos (by omega) (by simp)
  have eb : Txt.charAt (T b) (k : Int) = some b[k] := item_pos (by omega) (by simp)
  refine rAndC (rTCmp (rSub (rL F₂ rfl (rL F₂ rfl (rChr (by omega) (by omega) ea (fun _ => rSub (rL F₂ rfl (rL F₂ rfl (rChr (by omega) (by omega) eb (fun _ => rEqStr (rTBool ⟨fun hc => ?_, fun hc => ⟨nofun, fun _ => fin h₂ (g₁.trans g₂)⟩⟩)) sbName)))) sbName)))))
  refine rAndN ⟨fun _ => ?_, nofun⟩
  rw [T_beq, decide_eq_true_eq] at hc
  injection hc with hc
  refine rSeq (rAug (rLn F₂ rfl (rInt fun _ => rIAdd fun t₃ => rS F₂ fun h₃ F₃ _ => nx_next (rNil ⟨a.length - (k + 1), by omega, k + 1, t₃, by omega, by omega, ?_, rfl, ?_⟩))))
  · rw [← List.take_append_getElem ha', ← List.take_append_getElem hb', e, hc]
  · exact F₃
end
end Mine
open PySem PySem.W PyProof.Rows PySem.Calls
set_option Elab.async false
set_option maxRecDepth 100000
set_option maxHeartbeats 4000000
namespace Mine
section
variable {S : Shared} {w : World} {A : Around} {h h' h₀ : Heap} {env : Env} {L : Nat} {m mg mb : Str → Option Value} {l l' : List (Str × Value)}
/-- post or None -/
theorem rPost {x : Str} {p p' p2 : Pos} {k2 : Nat} {j : Nat} {tk : Tok} {Q : Value → Heap → Prop} (F : Lo h₀ L h l) (hv : l.lookup x = some (.int (-(j : Int)) tk))
    (q : ∀ v, ((j = 0 ∧ v = .none) ∨ (0 < j ∧ ∃ u, v = .int (-(j : Int)) u)) → Q v h) (hL : env.locals = L := by rfl)
    (hk : env.scope.kind = .function := by rfl) (hx : env.kindOf x = some .local := by rfl) (hd : (x == ("__debug__" : Str)) = false := by decide) :
    W S w A (eval (.BoolOp .Or [.Name x p, .Constant .none k2 p2] p') env) Q h := by
  refine rOr2 (rL F hv (rTInt ⟨fun hb => ?_, fun hb => rNone ?_⟩) hL hk hx hd)
  · exact q _ (.inr ⟨by simp at hb; omega, _, rfl⟩)
  · exact q _ (.inl ⟨by simp at hb; omega, rfl⟩)
/-- the loop over the common end -/
theorem lev_post {a b : List Nat} {ta tb tc tp t0 : Tok} {mc pr : Int} {Q : Flow → Heap → Prop} (la : a.length ≤ 100) (lb : b.length ≤ 100)
    (F : Lo h₀ L h [("a", .str (T a) ta), ("b", .str (T b) tb), ("max_cost", .int mc tc), ("pre", .int pr tp), ("post", .int 0 t0)])
    (q : ∀ h' c a' b' tk, a = a' ++ c → b = b' ++ c → Lo h₀ L h' [("a", .str (T a) ta), ("b", .str (T b) tb), ("max_cost", .int mc tc), ("pre", .int pr tp), ("post", .int (-(c.length : Int)) tk)] → Q .next h') :
    W S w A (exec (levS 6) (levE L)) Q h := by
  refine rWhile (fun n h => ∃ (j : Nat) (tk : Tok), j ≤ a.length ∧ j ≤ b.length ∧ a.drop (a.length - j) = b.drop (b.length - j) ∧ n = a.length - j ∧
    Lo h₀ L h [("a", .str (T a) ta), ("b", .str (T b) tb), ("max_cost", .int mc tc), ("pre", .int pr tp), ("post", .int (-(j : Int)) tk)]) (fun n h hi => ?_) a.length ⟨0, t0, by omega, by omega, by simp, by omega, F⟩
  obtain ⟨j, tk, ka, kb, e, rfl, F⟩ := hi
  have fin : ∀ h', Grow h h' → W S w A (execs [] (levE L)) Q h' := fun h' g => rNil (q h' (a.drop (a.length - j)) (a.take (a.length - j)) (b.take (b.length - j)) tk (by simp) (by rw [e]; simp) (by
    rw [List.length_drop, show a.length - (a.length - j) = j by omega]; exact F.grow g))
  refine rTBop (rAndC (rTVal (rSlPost (rL F rfl (rPost F rfl fun v hv => ⟨a, ta, j, rfl, hv, ka, by omega, fun t₁ h₁ g₁ => rTStr (by simp; omega) ⟨fun ha => ?_, fun _ => ⟨nofun, fun _ => fin h₁ g₁⟩⟩⟩))) tvSub))
  have F₁ := F.grow g₁
  refine rAndC (rTVal (rSlPost (rL F₁ rfl (rPost F₁ rfl fun v hv => ⟨b, tb, j, rfl, hv, kb, by omega, fun t₂ h₂ g₂ => rTStr (by simp; omega) ⟨fun hb => ?_, fun _ => ⟨nofun, fun _ => fin h₂ (g₁.trans g₂)⟩⟩⟩))) tvSub)
  have F₂ := F₁.grow g₂
  have ha' : j < a.length := by
    apply Nat.lt_of_not_le; intro hh
    rw [show a.length - j = 0 by omega] at ha; simp at ha
  have hb' : j < b.length := by
    apply Nat.lt_of_not_le; intro hh
    rw [show b.length - j = 0 by omega] at hb; simp at hb
  have ea : Txt.charAt (T a) (-(j : Int) - 1) = some (a[a.length - j - 1]'(by omega)) := item_neg (by omega) (by omega) (by
    rw [show (-(j : Int) - 1 + a.length).toNat = a.length - j - 1 by omega]; simp)
  have eb : Txt.charAt (T b) (-(j : Int) - 1) = some (b[b.length - j - 1]'(by omega)) := item_neg (by omega) (by omega) (by
    rw [show (-(j : Int) - 1 + b.length).toNat = b.length - j - 1 by omega]; simp)
  refine rAndC (rTCmp (rSub (rL F₂ rfl (rBin (rL F₂ rfl (rInt fun _ => rSubI fun _ => rChr (by omega) (by omega) ea (fun _ => rSub (rL F₂ rfl (rBin (rL F₂ rfl (rInt fun _ => rSubI fun _ => rChr (by omega) (by omega) eb (fun _ => rEqStr (rTBool ⟨fun hc => ?_, fun hc => ⟨nofun, fun _ => fin h₂ (g₁.trans g₂)⟩⟩)) sbBin))))) sbBin))))))
  refine rAndN ⟨fun _ => ?_, nofun⟩
  rw [T_beq, decide_eq_true_eq] at hc
  injection hc with hc
  refine rSeq (rAug (rLn F₂ rfl (rInt fun _ => rISub fun t₃ => rS F₂ fun h₃ F₃ _ => nx_next (rNil ⟨a.length - (j + 1), by omega, j + 1, t₃, by omega, by omega, ?_, rfl, ?_⟩))))
  · rw [show a.length - (j + 1) = a.length - j - 1 by omega, show b.length - (j + 1) = b.length - j - 1 by omega,
      List.drop_eq_getElem_cons (show a.length - j - 1 < a.length by omega), List.drop_eq_getElem_cons (show b.length - j - 1 < b.length by omega),
      show a.length - j - 1 + 1 = a.length - j by omega, show b.length - j - 1 + 1 = b.length - j by omega, e, hc]
  · rw [show (-((j + 1 : Nat) : Int)) = -(j : Int) - 1 by omega]
    exact F₃
end
end Mine
open PySem PySem.W PyProof.Rows PySem.Calls
set_option Elab.async false
set_option maxRecDepth 100000
set_option maxHeartbeats 4000000
namespace Mine
def csc (x y : Nat) : Nat := if x = y then 0 else if Txt.lower (T [x]) = Txt.lower (T [y]) then 1 else 2
theorem scost_csc (x y : Nat) : scost (T [x]) (T [y]) = (csc x y : Int) := by
  unfold scost csc
  by_cases e : x = y
  · subst e; simp
  · rw [if_neg (fun q => e (by simpa using T_inj.mp q)), if_neg e]
    split <;> rfl
theorem csc_self (x : Nat) : csc x x = 0 := by unfold csc; simp
theorem csc_le (x y : Nat) : csc x y ≤ 2 := by unfold csc; split <;> (try split) <;> omega
theorem csc_symm (x y : Nat) : csc x y = csc y x := by
  unfold csc
  by_cases e : x = y
  · subst e; rfl
  · rw [if_neg e, if_neg (Ne.symm e)]
    by_cases q : Txt.lower (T [x]) = Txt.lower (T [y])
    · rw [if_pos q, if_pos q.symm]
    · rw [if_neg q, if_neg (Ne.symm q)]
/-- the table's cell -/
noncomputable def Pc (a b : List Nat) (i j : Nat) : Int := (D csc (a.take i) (b.take j) : Nat)
/-- what stands left of the cell (i + 1, j + 1) -/
noncomputable def Rc (a b : List Nat) (i j : Nat) : Int := if i = 0 then 2 * (j : Int) else Pc a b i (j + 1)
theorem Pc_zero (a b : List Nat) {j : Nat} (hj : j ≤ b.length) : Pc a b 0 j = 2 * (j : Int) := by
  unfold Pc; rw [List.take_zero, D_nil, List.length_take]; omega
theorem Pc_zero' (a b : List Nat) {i : Nat} (hj : i ≤ a.length) : Pc a b i 0 = 2 * (i : Int) := by
  unfold Pc; rw [List.take_zero, D_nil', List.length_take]; omega
theorem Pc_step {a b : List Nat} {i j : Nat} (hi : i < a.length) (hj : j < b.length) :
    Pc a b (i + 1) (j + 1) = min (min (Rc a b i j) (Pc a b (i + 1) j) + 2) (Pc a b i j + (csc b[j] a[i] : Int)) := by
  have h := D_snoc csc (a.take i) (b.take j) a[i] b[j]
  rw [List.take_append_getElem hi, List.take_append_getElem hj] at h
  rw [csc_symm]
  have e : Pc a b (i + 1) (j + 1) = min (min (Pc a b i (j + 1)) (Pc a b (i + 1) j) + 2) (Pc a b i j + (csc a[i] b[j] : Int)) := by
    unfold Pc; rw [h]; omega
  unfold Rc
  split
  · rename_i hi0
    subst hi0
    have h1 := Pc_zero a b (j := j) (by omega)
    have h2 := Pc_zero a b (j := j + 1) (by omega)
    have h3 := csc_le a[0] b[j]
    omega
  · exact e
/-- row j with its first i cells renewed -/
noncomputable def rowAt (a b : List Nat) (j i : Nat) : List Int := (List.range a.length).map fun k => if k < i then Pc a b (k + 1) (j + 1) else Pc a b (k + 1) j
theorem rowAt_length (a b : List Nat) (j i : Nat) : (rowAt a b j i).length = a.length := by simp [rowAt]
theorem rowAt_get {a b : List Nat} {j i : Nat} (hi : i < a.length) : (rowAt a b j i)[i]? = some (Pc a b (i + 1) j) := by simp [rowAt, hi]
theorem rowAt_set {a b : List Nat} {j i : Nat} : (rowAt a b j i).set i (Pc a b (i + 1) (j + 1)) = rowAt a b j (i + 1) := by
  apply List.ext_getElem?
  intro k
  by_cases hk : k < a.length
  · rw [List.getElem?_set]
    by_cases e : i = k
    · subst e; simp [rowAt, hk]
    · simp only [if_neg e, rowAt, List.getElem?_map, List.getElem?_range hk, Option.map_some]
      congr 1
      by_cases h1 : k < i
      · rw [if_pos h1, if_pos (by omega)]
      · rw [if_neg h1, if_neg (by omega)]
  · rw [List.getElem?_eq_none (by rw [List.length_set, rowAt_length]; omega), List.getElem?_eq_none (by rw [rowAt_length]; omega)]
theorem rowAt_end (a b : List Nat) (j : Nat) : rowAt a b j a.length = rowAt a b (j + 1) 0 := by
  unfold rowAt
  apply List.map_congr_left
  intro k hk
  have := List.mem_range.mp hk
  rw [if_pos this, if_neg (by omega)]
def forBody : Stmt → List Stmt
  | .For _ _ b _ _ => b
  | _ => []
def levI (i : Nat) : Stmt := (forBody (levS 15)).getD i (.Pass default)
theorem Lo.take {h₀ h : Heap} {L : Nat} {l : List (Str × Value)} (F : Lo h₀ L h l) (n : Nat) : Lo h₀ L h (l.take n) := F.sub fun _ hp => List.mem_of_mem_take hp
theorem get_same {h h' : Heap} {a b : Nat} {o : Obj} (e : h.get? a = some o) (hs : Heap.SameBut b h h') (hne : a ≠ b) : h'.get? a = some o := (hs.2 a hne).trans e
section
variable {S : Shared} {w : World} {A : Around} {h h' h₀ : Heap} {env : Env} {L : Nat} {m mg mb : Str → Option Value} {l l' : List (Str × Value)}
theorem rAsgSub {o i value : Expr} {pos' pos : Pos} {Q : Flow → Heap → Prop}
    (q : W S w A (eval value env) (fun v h₁ => W S w A (eval o env) (fun ov h₂ => W S w A (eval i env) (fun iv h₃ => W S w A (setItem ov iv v) (fun _ h₄ => Q .next h₄) h₃) h₂) h₁) h)
    (hs : swapsWith value (some (.Subscript o i pos')) pos.line env = Pure.pure false := by rfl) : W S w A (exec (.Assign [.Subscript o i pos'] value pos) env) Q h :=
  ⟨fun _ => wpAny_Assign_Subscript (q.run fun _ _ _ q₁ => q₁.run fun _ _ _ q₂ => q₂.run fun _ _ _ q₃ => q₃.run fun _ _ _ q₄ => ⟨_, _, rfl, q₄⟩) hs⟩
/-- the inner loop: one row -/
theorem lev_inner {n : Nat} {a b : List Nat} {ta tb tc t1 t2 t3 t4 : Tok} {mc : Int} {j : Nat} {r ito : Nat} {Q : Flow → Heap → Prop} (G : Gl w mg mb h₀) (O : OkA n A) (hn : n ≤ 80) (la : a.length ≤ 40) (lb : b.length ≤ 40) (hj : j < b.length)
    (F : Lo h₀ L h [("a", .str (T a) ta), ("b", .str (T b) tb), ("max_cost", .int mc tc), ("row", .ref r), ("result", .int (2 * (j : Int)) t1), ("bchar", .str (T [b[j]]) t2), ("distance", .int (2 * (j : Int)) t3), ("minimum", .int 9223372036854775807 t4)])
    (R : IL h r (rowAt a b j 0)) {oi : Obj} (I : h.get? ito = some oi) (hLr : L < r) (hr : r < ito)
    (q : ∀ h' (mn : Int) t1 t2 t3 t4, (∀ k, k < a.length → mn ≤ Pc a b (k + 1) (j + 1)) → IL h' r (rowAt a b (j + 1) 0) → h'.get? ito = some oi →
      Lo h₀ L h' [("a", .str (T a) ta), ("b", .str (T b) tb), ("max_cost", .int mc tc), ("row", .ref r), ("result", .int (Rc a b a.length j) t1), ("bchar", .str (T [b[j]]) t2), ("distance", .int (Pc a b a.length j) t3), ("minimum", .int mn t4)] → Q .next h') :
    W S w A (exec (levI 3) (levE L)) Q h := by
  refine rFor a.length (by omega) O.hd ?_
  have G₀ := G.grow F.keep
  refine rCallN (rBlt G₀ G.fr.2.1 boot_range (rCT (rItC (rCallN (rBlt G₀ G.fr.1 boot_len (rCB (rItC (rL F rfl (rItN (rLenS (by omega) fun _ => rItN (rRange1 fun h₁ rr x1 x2 x3 g₁ hrg => ?_)))))))))))
  have F₁ := F.grow g₁
  have R₁ := R.grow g₁
  have I₁ := g₁ _ _ I
  have hit : ito < h₁.objs.size := Heap.lt_size I₁
  have hrt : r < h₁.objs.size := R₁.lt
  refine ⟨rr, x1, x2, x3, rfl, hrg, fun i h => ∃ (mn : Int) (t1 t2 t3 t4 : Tok), (∀ k, k < i → mn ≤ Pc a b (k + 1) (j + 1)) ∧ IL h r (rowAt a b j i) ∧ h.get? ito = some oi ∧ i ≤ a.length ∧ IsRangeIter h h₁.objs.size (i : Int) ((a.length : Int) - i) 1 ∧
    Lo h₀ L h [("a", .str (T a) ta), ("b", .str (T b) tb), ("max_cost", .int mc tc), ("row", .ref r), ("result", .int (Rc a b i j) t1), ("bchar", .str (T [b[j]]) t2), ("distance", .int (Pc a b i j) t3), ("minimum", .int mn t4)], fun it => ?_, ?_, ?_, ?_⟩
  · refine ⟨9223372036854775807, t1, t2, t3, t4, nofun, R₁.grow (Grow.push _ _), Grow.push _ _ _ _ I₁, by omega, by simpa using it, ?_⟩
    rw [Pc_zero a b (by omega)]
    exact F₁.grow (Grow.push _ _)
  · rintro i h ⟨_, _, _, _, _, _, _, _, _, it, _⟩; exact it
  · rintro i h h₂ tk hi ⟨mn, t1, t2, t3, t4, hm, R, I, _, it, F⟩ it' hs
    have F₂ := F.ext hs.extBut (by omega)
    have R₂ := R.ext hs.extBut (by omega)
    have I₂ := get_same I hs (by omega)
    refine rS F₂ fun h₃ F₃ s₃ => ?_
    have R₃ := R₂.ext s₃.extBut (R₂.ne_loc F₂)
    have I₃ := get_same I₂ s₃ (by omega)
    have T₃ := get_same it' s₃ (by have := F₁.lt; omega)
    have G₃ := G.grow F₃.keep
    -- substitute = distance + cost(bchar, a[index])
    have ec : Txt.charAt (T a) (i : Int) = some a[i] := item_pos (by omega) (by simp)
    refine rSeq (rAsgN (rBin (rL F₃ rfl ?_)))
    refine rCallN (rGlob G₃ (gSub w) (rCF (G₃.fn (look_subst w)) ?_))
    refine rItC (rL F₃ rfl (rItC ?_))
    refine rSub (rL F₃ rfl (rL F₃ rfl (rChr (by omega) (by omega) ec (fun _ => rItN ⟨G₃.fn (look_subst w), ?_⟩) sbName)))
    refine subst_call G₃ O (by simp [T_length]) (by simp [T_length]) (by omega) fun h₄ _ g₄ => rAdd fun _ => rS (F₃.grow g₄) fun h₅ F₅ s₅ => nx_next ?_
    rw [scost_csc] at F₅
    have R₄ := R₃.grow g₄
    have R₅ := R₄.ext s₅.extBut (R₄.ne_loc (F₃.grow g₄))
    have I₅ := get_same (g₄ _ _ I₃) s₅ (by omega)
    have T₅ := get_same (g₄ _ _ T₃) s₅ (by have := F₁.lt; omega)
    -- distance = row[index]
    refine rSeq (rAsgN (rSub (rL F₅ rfl (rL F₅ rfl (rGetIL R₅ (by omega) (rowAt_get hi) (fun td => rS F₅ fun h₆ F₆ s₆ => nx_next ?_) sbName)))))
    have R₆ := R₅.ext s₆.extBut (R₅.ne_loc F₅)
    have I₆ := get_same I₅ s₆ (by omega)
    have T₆ := get_same T₅ s₆ (by have := F₁.lt; omega)
    have G₆ := G.grow F₆.keep
    -- insert_delete = min(result, distance) + 2
    refine rSeq (rAsgN (rBin (rCallN (rBlt G₆ G.fr.2.2.2.2 (by decide +kernel : bootBuiltins "min" = some (.builtin "min")) (rCB (rItC (rL F₆ rfl (rItC (rL F₆ rfl (rItN (rMin O.hd fun h₇ _ g₇ => ?_)))))))))))
    have F₇ := F₆.grow g₇
    refine rGlob (G.grow F₇.keep) (gMOVE w) (rAdd fun _ => rS F₇ fun h₈ F₈ s₈ => nx_next ?_)
    have R₇ := R₆.grow g₇
    have R₈ := R₇.ext s₈.extBut (R₇.ne_loc F₇)
    have I₈ := get_same (g₇ _ _ I₆) s₈ (by omega)
    have T₈ := get_same (g₇ _ _ T₆) s₈ (by have := F₁.lt; omega)
    have G₈ := G.grow F₈.keep
    -- result = min(insert_delete, substitute)
    refine rSeq (rAsgN (rCallN (rBlt G₈ G.fr.2.2.2.2 (by decide +kernel : bootBuiltins "min" = some (.builtin "min")) (rCB (rItC (rL F₈ rfl (rItC (rL F₈ rfl (rItN (rMin O.hd fun h₉ tr g₉ => ?_))))))))))
    rw [← Pc_step hi hj]
    have F₉ := F₈.grow g₉
    refine rS F₉ fun h₁₀ F₁₀ s₁₀ => nx_next ?_
    have R₉ := R₈.grow g₉
    have R₁₀ := R₉.ext s₁₀.extBut (R₉.ne_loc F₉)
    have I₁₀ := get_same (g₉ _ _ I₈) s₁₀ (by omega)
    have T₁₀ := get_same (g₉ _ _ T₈) s₁₀ (by have := F₁.lt; omega)
    -- row[index] = result
    refine rSeq (rAsgSub (rL F₁₀ rfl (rL F₁₀ rfl (rL F₁₀ rfl (rSetIL R₁₀ (by rw [rowAt_length]; omega) (by omega) fun h₁₁ R₁₁ s₁₁ => nx_next ?_)))))
    rw [rowAt_set] at R₁₁
    have F₁₁ := F₁₀.ext s₁₁.extBut hLr
    have I₁₁ := get_same I₁₀ s₁₁ (by omega)
    have T₁₁ := get_same T₁₀ s₁₁ (by omega)
    have eR : Rc a b (i + 1) j = Pc a b (i + 1) (j + 1) := by unfold Rc; rw [if_neg (by omega)]
    -- if result < minimum: minimum = result
    refine rSeq (rIf (rTCmp (rL F₁₁ rfl (rL F₁₁ rfl (rLt (rTBool ⟨fun hc => ?_, fun hc => ?_⟩))))))
    · refine rSeq (rAsgN (rL F₁₁ rfl (rS F₁₁ fun h₁₂ F₁₂ s₁₂ => nx_next (rNil (nx_next (rNil ⟨Pc a b (i + 1) (j + 1), tr, t2, td, tr, fun k hk => ?_, R₁₁.ext s₁₂.extBut (by omega), get_same I₁₁ s₁₂ (by omega), by omega, ?_, ?_⟩))))))
      · rw [decide_eq_true_eq] at hc
        by_cases e : k = i
        · rw [e]; exact Int.le_refl _
        · exact Int.le_trans (Int.le_of_lt hc) (hm k (by omega))
      · have := get_same T₁₁ s₁₂ (by omega)
        rw [show ((a.length : Int) - ((i + 1 : Nat) : Int)) = (a.length : Int) - i - 1 by omega]
        exact this
      · rw [eR]
        exact F₁₂.take 8
    · refine rNil (nx_next (rNil ⟨mn, tr, t2, td, t4, fun k hk => ?_, R₁₁, I₁₁, by omega, ?_, ?_⟩))
      · rw [decide_eq_false_iff_not] at hc
        by_cases e : k = i
        · rw [e]; omega
        · exact hm k (by omega)
      · rw [show ((a.length : Int) - ((i + 1 : Nat) : Int)) = (a.length : Int) - i - 1 by omega]
        exact T₁₁
      · rw [eR]
        exact F₁₁.take 8
  · rintro h h₂ ⟨mn, t1, t2, t3, t4, hm, R, I, _, it, F⟩ hx
    refine rNil (q h₂ mn t1 t2 t3 t4 hm ?_ (hx _ _ (Nat.ne_of_lt hit) I) (F.ext hx (by omega)))
    rw [← rowAt_end]
    exact R.ext hx (by omega)
end
end Mine
open PySem PySem.W PyProof.Rows PySem.Calls
set_option Elab.async false
set_option maxRecDepth 100000
set_option maxHeartbeats 4000000
namespace Mine
theorem mulOk {a b : Int} (h1 : -1000 ≤ a) (h2 : a ≤ 1000) : IntMulOk a b := IntMulOk.of_left (intBits_le_64 (by omega) (by omega))
section
variable {S : Shared} {w : World} {A : Around} {h h' h₀ : Heap} {env : Env} {L : Nat} {m mg mb : Str → Option Value} {l l' : List (Str × Value)}
theorem rAsg2 {x1 x2 : Str} {p1 p2 pos : Pos} {value : Expr} {Q : Flow → Heap → Prop}
    (q : W S w A (eval value env) (fun v h₁ => W S w A (storeName env x1 v) (fun _ h₂ => W S w A (storeName env x2 v) (fun _ h₃ => Q .next h₃) h₂) h₁) h)
    (h1 : List.map (fun x => x.2) (assignEach [.Name x1 p1, .Name x2 p2] env) = [assign (.Name x1 p1) env, assign (.Name x2 p2) env] := by rfl)
    (h2 : swappedStores [.Name x1 p1, .Name x2 p2] value env = Pure.pure none := by rfl) : W S w A (exec (.Assign [.Name x1 p1, .Name x2 p2] value pos) env) Q h :=
  ⟨fun _ => wpAny_Assign_two (q.run fun _ _ _ q₁ => wpAny_assign_Name (q₁.run fun _ _ _ q₂ => wpAny_assign_Name (q₂.run fun _ _ _ q₃ => ⟨_, _, rfl, q₃⟩))) h1 h2⟩
/-- all rows -/
theorem lev_outer {n : Nat} {a b : List Nat} {ta tb tc t1 : Tok} {mc : Int} {r : Nat} {Q : Flow → Heap → Prop} (G : Gl w mg mb h₀) (O : OkA n A) (hn : n ≤ 80) (la : a.length ≤ 40) (lb : b.length ≤ 40) (ha : a ≠ []) (hb : b ≠ [])
    (F : Lo h₀ L h [("a", .str (T a) ta), ("b", .str (T b) tb), ("max_cost", .int mc tc), ("row", .ref r), ("result", .int 0 t1)])
    (R : IL h r (rowAt a b 0 0)) (hLr : L < r)
    (qr : ∀ h' tk, Grow h₀ h' → mc < (D csc a b : Nat) → Q (.ret (.int (mc + 1) tk)) h')
    (qn : ∀ h' tk, Lo h₀ L h' [("a", .str (T a) ta), ("b", .str (T b) tb), ("max_cost", .int mc tc), ("row", .ref r), ("result", .int (D csc a b : Nat) tk)] → Q .next h') :
    W S w A (exec (levS 15) (levE L)) Q h := by
  refine rFor b.length (by omega) O.hd ?_
  have G₀ := G.grow F.keep
  refine rCallN (rBlt G₀ G.fr.2.1 boot_range (rCT (rItC (rCallN (rBlt G₀ G.fr.1 boot_len (rCB (rItC (rL F rfl (rItN (rLenS (by omega) fun _ => rItN (rRange1 fun h₁ rr x1 x2 x3 g₁ hrg => ?_)))))))))))
  have F₁ := F.grow g₁
  have R₁ := R.grow g₁
  have hrt : r < h₁.objs.size := R₁.lt
  refine ⟨rr, x1, x2, x3, rfl, hrg, fun j h => ∃ (res : Int) (t1 : Tok), IL h r (rowAt a b j 0) ∧ j ≤ b.length ∧ IsRangeIter h h₁.objs.size (j : Int) ((b.length : Int) - j) 1 ∧ (0 < j → res = Pc a b a.length j) ∧
    Lo h₀ L h [("a", .str (T a) ta), ("b", .str (T b) tb), ("max_cost", .int mc tc), ("row", .ref r), ("result", .int res t1)], fun it => ?_, ?_, ?_, ?_⟩
  · exact ⟨0, t1, R₁.grow (Grow.push _ _), by omega, by simpa using it, fun q => absurd q (by omega), F₁.grow (Grow.push _ _)⟩
  · rintro j h ⟨_, _, _, _, it, _⟩; exact it
  · rintro j h h₂ tk hj ⟨res, t1, R, _, it, _, F⟩ it' hs
    have F₂ := F.ext hs.extBut (by omega)
    have R₂ := R.ext hs.extBut (by omega)
    refine rS F₂ fun h₃ F₃ s₃ => ?_
    have R₃ := R₂.ext s₃.extBut (by omega)
    have T₃ := get_same it' s₃ (by omega)
    have G₃ := G.grow F₃.keep
    have ec : Txt.charAt (T b) (j : Int) = some b[j] := item_pos (by omega) (by simp)
    -- bchar = b[bindex]
    refine rSeq (rAsgN (rSub (rL F₃ rfl (rL F₃ rfl (rChr (by omega) (by omega) ec (fun tb' => rS F₃ fun h₄ F₄ s₄ => nx_next ?_) sbName)))))
    have R₄ := R₃.ext s₄.extBut (by omega)
    have T₄ := get_same T₃ s₄ (by omega)
    have G₄ := G.grow F₄.keep
    -- distance = result = bindex * 2
    refine rSeq (rAsg2 (rBin (rL F₄ rfl (rGlob G₄ (gMOVE w) (rMul (mulOk (by omega) (by omega)) fun td => rS F₄ fun h₅ F₅ s₅ => rS F₅ fun h₆ F₆ s₆ => nx_next ?_)))))
    rw [Int.mul_comm] at F₆
    have R₅ := R₄.ext s₅.extBut (by omega)
    have T₅ := get_same T₄ s₅ (by omega)
    have R₆ := R₅.ext s₆.extBut (by omega)
    have T₆ := get_same T₅ s₆ (by omega)
    -- minimum = ..
    refine rSeq (rAsgN (rInt fun tm => rS F₆ fun h₇ F₇ s₇ => nx_next ?_))
    have R₇ := R₆.ext s₇.extBut (by omega)
    have T₇ := get_same T₆ s₇ (by omega)
    have F₇' : Lo h₀ L h₇ [("a", .str (T a) ta), ("b", .str (T b) tb), ("max_cost", .int mc tc), ("row", .ref r), ("result", .int (2 * (j : Int)) td), ("bchar", .str (T [b[j]]) tb'), ("distance", .int (2 * (j : Int)) td), ("minimum", .int 9223372036854775807 tm)] :=
      F₇.sub (l := [("a", .str (T a) ta), ("b", .str (T b) tb), ("max_cost", .int mc tc), ("row", .ref r), ("result", .int (2 * (j : Int)) td), ("bindex", .int (j : Int) tk), ("bchar", .str (T [b[j]]) tb'), ("distance", .int (2 * (j : Int)) td), ("minimum", .int 9223372036854775807 tm)]) (by
        intro p hp
        simp only [List.mem_cons, List.not_mem_nil, or_false] at hp ⊢
        rcases hp with h | h | h | h | h | h | h | h <;> simp [h])
    refine rSeq (lev_inner G O hn la lb hj F₇' R₇ T₇ hLr hrt fun h₈ mn u1 u2 u3 u4 hm R₈ T₈ F₈ => nx_next ?_)
    -- if minimum > max_cost: return max_cost + 1
    refine rSeq (rIf (rTCmp (rL F₈ rfl (rL F₈ rfl (rGt (rTBool ⟨fun hc => ?_, fun hc => ?_⟩))))))
    · refine rSeq (rRet (rBin (rL F₈ rfl (rInt fun _ => rAdd fun _ => nx_ret (nx_ret (qr h₈ _ F₈.keep ?_))))))
      rw [decide_eq_true_eq] at hc
      exact D_row csc csc_le ha (j := j + 1) (by omega) (by omega) fun i hi => Int.lt_of_lt_of_le hc (hm i hi)
    · refine rNil (nx_next (rNil ⟨Rc a b a.length j, u1, R₈, by omega, ?_, fun _ => ?_, F₈.take 5⟩))
      · rw [show ((b.length : Int) - ((j + 1 : Nat) : Int)) = (b.length : Int) - j - 1 by omega]
        exact T₈
      · unfold Rc; rw [if_neg (by intro e; exact ha (List.length_eq_zero_iff.mp e))]
  · rintro h h₂ ⟨res, t1, R, _, it, hres, F⟩ hx
    have hlb : 0 < b.length := by cases b <;> simp_all
    have := hres hlb
    unfold Pc at this
    rw [List.take_length, List.take_length] at this
    rw [this] at F
    exact rNil (qn h₂ t1 (F.ext hx (by omega)))
end
end Mine
open PySem PySem.W PyProof.Rows PySem.Calls
set_option Elab.async false
set_option maxRecDepth 100000
set_option maxHeartbeats 4000000
namespace Mine
theorem range_two (n : Nat) : Builtin.Range.rangeSize 2 (2 * ((n : Int) + 1)) 2 = (n : Int) := by
  unfold Builtin.Range.rangeSize
  rw [if_pos (by omega)]
  split <;> omega
theorem fitsL {i : Int} (h1 : -1000000 ≤ i) (h2 : i < 1000000) : Builtin.Range.rangeFitsLong i = true := by
  unfold Builtin.Range.rangeFitsLong; rw [Bool.and_eq_true, decide_eq_true_eq, decide_eq_true_eq]; omega
theorem small_two (n : Nat) (hn : n ≤ 1000) : Builtin.Range.small 2 (2 * ((n : Int) + 1)) 2 = true := by
  unfold Builtin.Range.small
  rw [range_two, if_pos (by decide), fitsL (by omega) (by omega), fitsL (by omega) (by omega), fitsL (by omega) (by omega), fitsL (i := 2 * ((n : Int) + 1) + (2 - 1)) (by omega) (by omega)]
  exact Bool.or_true _
theorem grow_of_ext {h h' : Heap} (x : Heap.ExtBut h.objs.size h h') : Grow h h' := fun b o e => x b o (Nat.ne_of_lt (Heap.lt_size e)) e
section
variable {S : Shared} {w : World} {A : Around} {h h' h₀ : Heap} {env : Env} {L : Nat} {m mg mb : Str → Option Value} {l l' : List (Str × Value)}
theorem rTuple {elts : List Expr} {k : Nat} {pos : Pos} {Q : Value → Heap → Prop} (q : W S w A (spliced (backTo pos (starEach elts env))) (fun vs h₁ => vs.length ≤ 1000 ∧ ∀ h' a, Grow h₁ h' → h₁.objs.size ≤ a → IsTup h' a vs.toArray → Q (.ref a) h') h) :
    W S w A (eval (.Tuple elts k pos) env) Q h :=
  ⟨fun _ => Tuple_ (q.run fun vs h₁ tk₁ q₁ => wpAny_newTuple (s := St S h₁ tk₁) ⟨_, _, rfl, q₁.2 _ _ (Grow.push _ _) (Nat.le_refl _) ⟨_, Heap.get?_push_size _ rfl, rfl, _, rfl⟩⟩ (Nat.le_trans q₁.1 (by decide)))⟩
/-- x, y = (u, v) by the exchanged stores -/
theorem rSwap {elts : List Expr} {k : Nat} {tpos pos : Pos} {value : Expr} {x y : Str} {Q : Flow → Heap → Prop} (hh : A.handled = none)
    (q : W S w A (eval value env) (fun t h₁ => ∃ a u v, t = .ref a ∧ IsTup h₁ a #[u, v] ∧ ∀ h', Grow h₁ h' → W S w A (storeName env y v) (fun _ h₂ => W S w A (storeName env x u) (fun _ h₃ => Q .next h₃) h₂) h') h)
    (hs : swapsWithSole [.Tuple elts k tpos] value pos.line env = Pure.pure false := by rfl)
    (hw : swappedStores [.Tuple elts k tpos] value env = Pure.pure (some [x, y]) := by rfl) : W S w A (exec (.Assign [.Tuple elts k tpos] value pos) env) Q h :=
  ⟨fun tk => by
    have hx : wpAny (model PG w) A (eval value env) (fun v s₁ => wpAny (model PG w) A (unpackItems v [x, y].length none) (fun items s₂ =>
        wpAny (model PG w) A (assignInOrder ([x, y].reverse.map fun n => bindName env n) items.reverse) (fun _ s₃ => ∃ h' tk', s₃ = St S h' tk' ∧ Q .next h') (fun _ _ => False) s₂) (fun _ _ => False) s₁) (fun _ _ => False) (St S h tk) := by
      refine q.run fun t h₁ tk₁ q₁ => ?_
      obtain ⟨a, u, v, rfl, ht, q⟩ := q₁
      have e : ([x, y] : List Str).length = (#[u, v] : Array Value).size := rfl
      rw [e]
      with_reducible refine unpackItems_tuple hh ht ?_
      intro h' he
      show wpAny (model PG w) A (do holding [u] (bindName env y v); (do holding [] (bindName env x u); assignInOrder [] [])) _ _ _
      refine wpAny_bind (wpAny_holding (wpAny_bindName ((q h' (grow_of_ext he)).run fun _ h₂ tk₂ q₂ => ?_)))
      exact wpAny_bind (wpAny_holding (wpAny_bindName (q₂.run fun _ h₃ tk₃ q₃ => wpAny_pure ⟨_, _, rfl, q₃⟩)))
    with_reducible exact Assign_Tuple_swapped hx hs hw⟩
abbrev LB (l : List (String × Value)) : List (Str × Value) := l.map fun p => (Str.ofString p.1, p.2)
/-- from the strip on: a' and b' have no common beginning; the rest of the body -/
theorem lev_tail {n : Nat} {a b : List Nat} {ta tb tc tp tq : Tok} {mc pr po : Int} {Q : Value → Heap → Prop} (G : Gl w mg mb h₀) (O : OkA n A) (hn : n ≤ 80) (la : a.length ≤ 40) (lb : b.length ≤ 40) (ha : a ≠ []) (hb : b ≠ [])
    (hab : a.length ≤ b.length)
    (F : Lo h₀ L h [("a", .str (T a) ta), ("b", .str (T b) tb), ("max_cost", .int mc tc), ("pre", .int pr tp), ("post", .int po tq)])
    (q : ∀ h' r tk, Grow h₀ h' → LevOk csc a b mc r → Q (.int r tk) h') :
    W S w A (execs ((bodyOf (stm 5)).drop 12) (levE L)) (fun f h' => Q (match f with | .ret v => v | _ => .none) h') h := by
  have G₀ := G.grow F.keep
  refine rSeq (rIf ?_)
  -- if (len(b) - len(a)) * 2 > max_cost
  refine rTCmp (rBin (rBin (rCallN (rBlt G₀ G.fr.1 boot_len (rCB (rItC (rL F rfl (rItN (rLenS (by omega) fun _ => ?_)))))))))
  refine rCallN (rBlt G₀ G.fr.1 boot_len (rCB (rItC (rL F rfl (rItN (rLenS (by omega) fun _ => rSubI fun _ => rGlob G₀ (gMOVE w) (rMul (mulOk (by omega) (by omega)) fun _ => rL F rfl (rGt (rTBool ⟨fun hc => ?_, fun hc => ?_⟩)))))))))
  · refine rSeq (rRet (rBin (rL F rfl (rInt fun _ => rAdd fun _ => nx_ret (nx_ret (q h _ _ F.keep (.inr ⟨by omega, ?_⟩)))))))
    rw [decide_eq_true_eq] at hc
    have := D_len csc a b
    omega
  · refine rNil (nx_next ?_)
    -- row = list(range(2, 2 * (len(a) + 1), 2))
    refine rSeq (rAsgN (rCallN (rBlt G₀ G.fr.2.2.1 (by decide +kernel : bootBuiltins "list" = some (.type "list")) (rCT (rItC ?_)))))
    refine rCallN (rBlt G₀ G.fr.2.1 boot_range (rCT (rItC (rGlob G₀ (gMOVE w) (rItC ?_)))))
    refine rBin (rGlob G₀ (gMOVE w) (rBin (rCallN (rBlt G₀ G.fr.1 boot_len (rCB (rItC (rL F rfl (rItN (rLenS (by omega) fun _ => rInt fun _ => rAdd fun _ => rMul (mulOk (by omega) (by omega)) fun _ => ?_)))))))))
    refine rItC (rGlob G₀ (gMOVE w) (rItN (rRange3 (by omega) (PyProof.noPylong_small (by omega)) fun h₁ rr x1 x2 x3 g₁ hr => rItN ?_)))
    refine rListRange O.hd hr ?_ (n := a.length) ?_ (by omega) fun h₂ r g₂ hlt R => ?_
    · exact small_two a.length (by omega)
    · exact range_two a.length
    have F₂ := F.grow (g₁.trans g₂)
    refine rS F₂ fun h₃ F₃ s₃ => nx_next ?_
    have hLr : L < r := Nat.lt_of_lt_of_le (F.grow g₁).lt hlt
    have R₃ := R.ext s₃.extBut (by omega)
    refine rSeq (rAsgN (rInt fun t0 => rS F₃ fun h₄ F₄ s₄ => nx_next ?_))
    have R₄ := R₃.ext s₄.extBut (by omega)
    have eR : ((List.range a.length).map fun i : Nat => (2 : Int) + (i : Int) * 2) = rowAt a b 0 0 := by
      unfold rowAt
      apply List.map_congr_left
      intro k hk
      have := List.mem_range.mp hk
      rw [if_neg (by omega), Pc_zero' a b (by omega)]
      omega
    rw [eR] at R₄
    have F₄' : Lo h₀ L h₄ [("a", .str (T a) ta), ("b", .str (T b) tb), ("max_cost", .int mc tc), ("row", .ref r), ("result", .int 0 t0)] :=
      F₄.sub (l := [("a", .str (T a) ta), ("b", .str (T b) tb), ("max_cost", .int mc tc), ("pre", .int pr tp), ("post", .int po tq), ("row", .ref r), ("result", .int 0 t0)]) (by
        intro p hp
        simp only [List.mem_cons, List.not_mem_nil, or_false] at hp ⊢
        rcases hp with h | h | h | h | h <;> simp [h])
    refine rSeq (lev_outer G O hn la lb ha hb F₄' R₄ hLr (fun h₅ tk g hlt => nx_ret (q h₅ _ _ g (.inr ⟨by omega, hlt⟩))) fun h₅ tk F₅ => nx_next ?_)
    exact rSeq (rRet (rL F₅ rfl (nx_ret (q h₅ _ _ F₅.keep (.inl rfl)))))
theorem lev_call {n : Nat} {a b : List Nat} {ta tb tc : Tok} {mc : Int} {Q : Value → Heap → Prop} (G : Gl w mg mb h) (O : OkA n A) (hn : n ≤ 70) (la : a.length ≤ 40) (lb : b.length ≤ 40)
    (q : ∀ h' r tk, Grow h h' → LevOk csc a b mc r → Q (.int r tk) h') : W S w A (call (.ref 28) [.str (T a) ta, .str (T b) tb, .int mc tc]) Q h := by
  refine rCallFn (binds := [("a", .str (T a) ta), ("b", .str (T b) tb), ("max_cost", .int mc tc)]) G O (look_lev w) (by kernel_rfl) rfl (fun tk => BindsTo.of_eq rfl) (by decide) (locs rfl) (fun h₁ F => ?_)
  have F := Lo.of (names := ["a", "b", "max_cost"]) F rfl (by decide)
  have O := O.deeper (env := levE h.objs.size)
  have G₁ := G.grow F.keep
  -- if a == b: return 0
  refine rSeq (rIf (rTCmp (rL F rfl (rL F rfl (rEqStr (rTBool ⟨fun hc => ?_, fun hc => ?_⟩))))))
  · rw [T_beq, decide_eq_true_eq] at hc
    refine rSeq (rRet (rInt fun _ => nx_ret (nx_ret (q h₁ _ _ F.keep (.inl ?_)))))
    rw [hc, D_self csc csc_self]; rfl
  refine rNil (nx_next ?_)
  refine rSeq (rAsgN (rInt fun t0 => rS F fun h₂ F₂ s₂ => nx_next ?_))
  refine rSeq (lev_pre (by omega) (by omega) F₂ fun h₃ c a₁ b₁ tp ea eb F₃ => nx_next ?_)
  -- a = a[pre:]; b = b[pre:]
  have la₁ : a₁.length ≤ 40 := by rw [ea, List.length_append] at la; omega
  have lb₁ : b₁.length ≤ 40 := by rw [eb, List.length_append] at lb; omega
  have lc : c.length ≤ 40 := by rw [ea, List.length_append] at la; omega
  refine rSeq (rAsgN (rSlFrom (rL F₃ rfl (rL F₃ rfl ⟨a, ta, c.length, tp, rfl, rfl, by rw [ea]; simp, by omega, fun ta₁ h₄ g₄ => rS (F₃.grow g₄) fun h₅ F₅ s₅ => nx_next ?_⟩))))
  rw [show a.drop c.length = a₁ by rw [ea]; simp] at F₅
  refine rSeq (rAsgN (rSlFrom (rL F₅ rfl (rL F₅ rfl ⟨b, tb, c.length, tp, rfl, rfl, by rw [eb]; simp, by omega, fun tb₁ h₆ g₆ => rS (F₅.grow g₆) fun h₇ F₇ s₇ => nx_next ?_⟩))))
  rw [show b.drop c.length = b₁ by rw [eb]; simp] at F₇
  refine rSeq (rAsgN (rInt fun t5 => rS F₇ fun h₈ F₈ s₈ => nx_next ?_))
  refine rSeq (lev_post (by omega) (by omega) F₈ fun h₉ e a₂ b₂ tq ea₁ eb₁ F₉ => nx_next ?_)
  have la₂ : a₂.length ≤ 40 := by rw [ea₁, List.length_append] at la₁; omega
  have lb₂ : b₂.length ≤ 40 := by rw [eb₁, List.length_append] at lb₁; omega
  have eD : D csc a b = D csc a₂ b₂ := by rw [ea, eb, D_pre csc csc_self, ea₁, eb₁, D_suf csc csc_self]
  refine rSeq (rAsgN (rSlPost (rL F₉ rfl (rPost F₉ rfl fun v hv => ⟨a₁, ta₁, e.length, rfl, hv, by rw [ea₁]; simp, by omega, fun ta₂ h₁₀ g₁₀ => rS (F₉.grow g₁₀) fun h₁₁ F₁₁ s₁₁ => nx_next ?_⟩))))
  rw [show a₁.take (a₁.length - e.length) = a₂ by rw [ea₁]; simp] at F₁₁
  refine rSeq (rAsgN (rSlPost (rL F₁₁ rfl (rPost F₁₁ rfl fun v hv => ⟨b₁, tb₁, e.length, rfl, hv, by rw [eb₁]; simp, by omega, fun tb₂ h₁₂ g₁₂ => rS (F₁₁.grow g₁₂) fun h₁₃ F₁₃ s₁₃ => nx_next ?_⟩))))
  rw [show b₁.take (b₁.length - e.length) = b₂ by rw [eb₁]; simp] at F₁₃
  have F₁₄ : Lo h h.objs.size h₁₃ [("a", .str (T a₂) ta₂), ("b", .str (T b₂) tb₂), ("max_cost", .int mc tc), ("pre", .int (c.length : Int) tp), ("post", .int (-(e.length : Int)) tq)] := F₁₃
  clear F₁₃
  have G₁₄ := G.grow F₁₄.keep
  have lv : ∀ r, LevOk csc a₂ b₂ mc r → LevOk csc a b mc r := fun r hr => by unfold LevOk; rw [eD]; exact hr
  have lv' : ∀ r, LevOk csc b₂ a₂ mc r → LevOk csc a b mc r := fun r hr => by unfold LevOk; rw [eD, D_comm csc csc_symm]; exact hr
  -- if not a or not b: return 2 * (len(a) + len(b))
  refine rSeq (rIf (W.mono (Q := fun b h' => h' = h₁₃ ∧ (b = true ↔ (a₂ = [] ∨ b₂ = []))) ?_ fun b h' hb => ⟨fun e => ?_, fun e => ?_⟩))
  · refine rTBop (rOrC (rTNot (rTVal (rL F₁₄ rfl (rTStr (by omega) ⟨fun hc => ⟨rfl, by simp_all⟩, fun hc => ?_⟩)) tvName)))
    refine rOrC (rTNot (rTVal (rL F₁₄ rfl (rTStr (by omega) ⟨fun hc' => ⟨rfl, by simp_all⟩, fun hc' => rOrN ⟨rfl, by simp_all⟩⟩)) tvName))
  · obtain ⟨rfl, hb⟩ := hb
    have he := hb.mp e
    refine rSeq (rRet (rBin (rGlob G₁₄ (gMOVE w) (rBin (rCallN (rBlt G₁₄ G.fr.1 boot_len (rCB (rItC (rL F₁₄ rfl (rItN (rLenS (by omega) fun _ => ?_)))))))))))
    refine rCallN (rBlt G₁₄ G.fr.1 boot_len (rCB (rItC (rL F₁₄ rfl (rItN (rLenS (by omega) fun _ => rAdd fun _ => rMul (mulOk (by omega) (by omega)) fun _ => nx_ret (nx_ret (q h' _ _ F₁₄.keep (.inl ?_)))))))))
    rw [eD]
    rcases he with rfl | rfl
    · rw [D_nil]; simp
    · rw [D_nil']; simp
  obtain ⟨rfl, hb⟩ := hb
  have hne : a₂ ≠ [] ∧ b₂ ≠ [] := by
    rw [e] at hb
    exact ⟨fun q => Bool.false_ne_true (hb.mpr (.inl q)), fun q => Bool.false_ne_true (hb.mpr (.inr q))⟩
  refine rNil (nx_next ?_)
  -- if len(a) > 40 or len(b) > 40
  refine rSeq (rIf (W.mono (Q := fun b h₂ => h₂ = h' ∧ b = false) ?_ fun b h₂ hb => ⟨fun e => ?_, fun e => ?_⟩))
  · refine rTBop (rOrC (rTCmp (rCallN (rBlt G₁₄ G.fr.1 boot_len (rCB (rItC (rL F₁₄ rfl (rItN (rLenS (by omega) fun _ => rGlob G₁₄ (gMAX w) (rGt (rTBool ⟨fun hc => ?_, fun _ => ?_⟩)))))))))))
    · simp at hc; omega
    refine rOrC (rTCmp (rCallN (rBlt G₁₄ G.fr.1 boot_len (rCB (rItC (rL F₁₄ rfl (rItN (rLenS (by omega) fun _ => rGlob G₁₄ (gMAX w) (rGt (rTBool ⟨fun hc => ?_, fun _ => rOrN ⟨rfl, rfl⟩⟩))))))))))
    simp at hc; omega
  · rw [hb.2] at e; cases e
  obtain ⟨rfl, _⟩ := hb
  refine rNil (nx_next ?_)
  -- if len(b) < len(a): a, b = b, a
  refine rSeq (rIf (rTCmp (rCallN (rBlt G₁₄ G.fr.1 boot_len (rCB (rItC (rL F₁₄ rfl (rItN (rLenS (by omega) fun _ => ?_)))))))))
  refine rCallN (rBlt G₁₄ G.fr.1 boot_len (rCB (rItC (rL F₁₄ rfl (rItN (rLenS (by omega) fun _ => rLt (rTBool ⟨fun hc => ?_, fun hc => ?_⟩)))))))
  · rw [decide_eq_true_eq] at hc
    refine rSeq (rSwap (x := "a") (y := "b") O.hd (rTuple (rItC (rL F₁₄ rfl (rItC (rL F₁₄ rfl (rItN ⟨by simp, fun h₃ t g₃ _ ht => ⟨t, _, _, rfl, ht, fun h₄ g₄ => ?_⟩⟩)))))))
    refine rS (F₁₄.grow (g₃.trans g₄)) fun h₅ F₅ s₅ => rS F₅ fun h₆ F₆ s₆ => nx_next (rNil (nx_next ?_))
    exact lev_tail G O (by omega) lb₂ la₂ hne.2 hne.1 (by omega) F₆ fun h' r tk g hr => q h' r tk g (lv' r hr)
  · rw [decide_eq_false_iff_not] at hc
    exact rNil (nx_next (lev_tail G O (by omega) la₂ lb₂ hne.1 hne.2 (by omega) F₁₄ fun h' r tk g hr => q h' r tk g (lv r hr)))
end
end Mine
open PySem PySem.W PyProof.Rows PySem.Calls
set_option Elab.async false
set_option maxRecDepth 100000
set_option maxHeartbeats 4000000
namespace Mine
/-- a source of n values -/
structure Src (S : Shared) (w : World) (A : Around) (h : Heap) (xv : Value) (fx : List Nat) (n : Nat) (P : Nat → Value → Prop) : Prop where
  ok : W S w A (pyIter xv) (fun it h₂ => ∃ (Stt : Nat → Heap → Prop) (o : Obj), it = .ref h.objs.size ∧ h₂ = h.push o ∧ Walks PG w A h.objs.size (h.objs.size :: fx) [h.objs.size] n P Stt ∧ Stt 0 h₂ ∧ ∀ b : Nat, b ∈ h.objs.size :: fx → b < h₂.objs.size) h
abbrev tests (ifs : List Expr) (env : Env) : Sem Bool := forIn ifs true fun c r => if r = true then do let ok ← PySem.isTrue c env (eval c env); pure (ForInStep.yield ok) else pure (ForInStep.yield r)
section
variable {S : Shared} {w : World} {A : Around} {h h' h₀ : Heap} {env : Env} {L : Nat} {m mg mb : Str → Option Value} {l l' : List (Str × Value)}
theorem Src.list {ax : Nat} {vs : List Value} (hh : A.handled = none) (x : h.IsList ax vs.toArray) : Src S w A h (.ref ax) [ax] vs.length (fun i v => vs[i]? = some v) := ⟨⟨fun _ => wpAny_pyIter_list x ⟨_, _, rfl, by
  have hlt : ax < h.objs.size := by obtain ⟨o, e, _⟩ := x; exact Heap.lt_size e
  refine ⟨fun i h' => h'.IsListIter h.objs.size ax i ∧ h'.IsList ax vs.toArray, _, rfl, rfl, ?_, ⟨⟨_, Heap.get?_push_size _ rfl, rfl, rfl⟩, Grow.lst (Grow.push _ _) x⟩, ?_⟩
  · have W := Walks.list (prog := PG) (w := w) (A := A) hh h.objs.size ax (Nat.ne_of_lt hlt) vs.toArray
    simpa using W
  · intro b hb
    show b < (h.push _).objs.size
    rw [Heap.size_push]
    simp at hb
    rcases hb with rfl | rfl <;> omega⟩⟩⟩
theorem Src.range {r : Nat} {n : Nat} {a b c : Tok} (hh : A.handled = none) (x : IsRange h r 0 (n : Int) 1 a b c) (hn : n ≤ 1000) : Src S w A h (.ref r) [] n (fun i v => i < n ∧ ∃ t, v = .int (i : Int) t) := ⟨⟨fun _ => wpAny_pyIter_range x (small_one (by omega) (by omega) (by omega) (by omega)) ⟨_, _, rfl, by
  rw [rangeSize_n]
  refine ⟨fun i h' => IsRangeIter h' h.objs.size (0 + (i : Int) * 1) ((n : Int) - i) 1, _, rfl, rfl, ?_, ?_, ?_⟩
  · have W := (Walks.range (prog := PG) (w := w) (A := A) hh h.objs.size 0 1 n).bound
    simpa using W
  · have : IsRangeIter (h.push (rIter 0 n)) h.objs.size 0 n 1 := Heap.get?_push_size _ rfl
    simpa using this
  · intro b hb
    show b < (h.push _).objs.size
    rw [Heap.size_push]
    simp at hb; omega⟩⟩⟩
theorem Src.str {x : List Nat} {t : Tok} (hh : A.handled = none) : Src S w A h (.str (T x) t) [] x.length (fun i v => ∃ c u, x[i]? = some c ∧ v = .str (T [c]) u) := ⟨⟨fun _ => wpAny_pyIter_str fun o Stt W h0 => ⟨_, _, rfl, by
  refine ⟨Stt, o, rfl, rfl, ?_, h0, ?_⟩
  · have W := W A hh
    have e : (T x).cps.size = x.length := by simp
    rw [e] at W
    have e2 : SignAt (T x) = (fun i v => ∃ c u, x[i]? = some c ∧ v = .str (T [c]) u) := by
      funext i v
      show (∃ c u, (T x).cps[i]? = some c ∧ v = .str ⟨#[c]⟩ u) = _
      simp
    rw [e2] at W
    exact W
  · intro b hb
    show b < (h.push _).objs.size
    rw [Heap.size_push]
    simp at hb; omega⟩⟩⟩
theorem tests_nil : tests [] env = Pure.pure true := rfl
theorem rT0 {Q : Bool → Heap → Prop} (q : Q true h) : W S w A (tests [] env) Q h := W.pure q
theorem rT1 {c : Expr} {Q : Bool → Heap → Prop} (q : W S w A (PySem.isTrue c env (eval c env)) Q h) : W S w A (tests [c] env) Q h := ⟨fun _ => wpAny_tests_one (q.ok _)⟩
theorem keeps_of {α : Type} {t : Sem α} {P : α → Prop} {s₃ : Shared} {E' : Value → Shared → Prop} (q : W s₃ w A t (fun y h₄ => P y ∧ Grow s₃.heap h₄) s₃.heap) : wpAny (model PG w) A t (fun y s₄ => P y ∧ Keeps s₃ s₄) E' s₃ :=
  q.run (tk := s₃.toks) fun _ h' tk' q => ⟨q.1, h', tk', rfl, q.2⟩
theorem grow_off {o : Obj} (k : ∀ b o', b ∉ [h.objs.size] → (h.push o).get? b = some o' → h'.get? b = some o') : Grow h h' := fun b o' e => k b o' (fun hb => absurd (List.mem_singleton.mp hb) (Nat.ne_of_lt (Heap.lt_size e))) (Grow.push _ _ _ _ e)
theorem rLC {elt iter : Expr} {x : Str} {px : Pos} {ifs : List Expr} {scope : Scope} {cl : List (Str × Nat)} {pos : Pos} {Q : Value → Heap → Prop} (n : Nat) (P : Nat → Value → Prop) (p : Value → Bool) (F : Value → Value → Prop)
    (hclos : closureFor scope env = Pure.pure cl)
    (q : W S w A (eval iter env) (fun xv h₁ => (∃ fx, Src S w A h₁ xv fx n P) ∧ n ≤ 1000 ∧
      (∀ S' C i v h₃, Lo h₁ C h₃ [(x, v)] → P i v → W S' w A (tests ifs (compEnvC scope cl C env)) (fun ok h₄ => ok = p v ∧ Grow h₃ h₄) h₃) ∧
      (∀ S' C i v h₃, Lo h₁ C h₃ [(x, v)] → P i v → p v = true → W S' w A (eval elt (compEnvC scope cl C env)) (fun y h₄ => F v y ∧ Grow h₃ h₄) h₃) ∧
      (∀ D h' (ys vs : List Value), Grow h₁ h' → h'.IsList D ys.toArray → vs.length = n → (∀ j v, vs[j]? = some v → P j v) → Paired F (vs.filter p) ys → Q (.ref D) h')) h)
    (hcell : ∀ y ∈ scope.names, y.2 ≠ .cell := by decide) (hkind : scope.kind = .function := by rfl)
    (hnames : ∀ y ∈ scope.names, y.2 = .local → scope.names.lookup y.1 = some .local := by decide) (hx : scope.names.lookup x = some .local := by rfl)
    (hs : ∀ x, foldedSetIterable iter env x = Pure.pure x := by intro _; rfl) : W S w A (eval (.ListComp elt [⟨.Name x px, iter, ifs, 0⟩] scope pos) env) Q h := ⟨fun _ => by
  refine wpAny_ListComp_free p F hclos hcell hkind hnames hx (q.run fun xv h₁ tk₁ q₁ => ?_) hs
  obtain ⟨⟨fx, src⟩, hn, ht, he, hQ⟩ := q₁
  refine src.ok.run fun it h₂ tk₂ q₂ => ?_
  obtain ⟨Stt, o, rfl, rfl, Wk, h0, hfp⟩ := q₂
  have lo : ∀ {C : Nat} {v : Value} {s₃ : Shared} {m₃ : Str → Option Value}, (h₁.push o).objs.size ≤ C → s₃.heap.Ns C m₃ → m₃ x = some v → (∀ b o', b ∉ [h₁.objs.size] → (h₁.push o).get? b = some o' → s₃.heap.get? b = some o') → Lo h₁ C s₃.heap [(x, v)] :=
    fun hC hn hm hk => ⟨_, ⟨hn, grow_off hk, by rw [Heap.size_push] at hC; omega⟩, fun p hp => by rw [List.mem_singleton.mp hp]; exact hm⟩
  refine ⟨_, h₁.objs.size :: fx, [h₁.objs.size], n, P, Stt, rfl, Wk, Nat.le_trans hn (by decide), h0, hfp, ⟨fun C i v s₃ m₃ E' hC hP hn hm hk _ => ?_, fun C i v s₃ m₃ E' hC hP hp hn hm hk _ => ?_⟩, fun D h' tk ys vs _ hl _ hlen hP hF hk => ⟨_, _, rfl, ?_⟩⟩
  · exact keeps_of (ht s₃ C i v s₃.heap (lo hC hn hm hk) hP)
  · exact keeps_of (he s₃ C i v s₃.heap (lo hC hn hm hk) hP hp)
  · exact hQ D h' ys.toList vs (grow_off hk) (by simpa using hl) hlen hP hF⟩
end
end Mine
open PySem PySem.W PyProof.Rows PySem.Calls
set_option Elab.async false
set_option maxRecDepth 100000
set_option maxHeartbeats 4000000
namespace Mine
theorem T_append (a b : List Nat) : T a ++ T b = T (a ++ b) := by
  show (⟨(T a).cps ++ (T b).cps⟩ : Str) = _
  simp
theorem T_of (s : Str) : T s.cps.toList = s := by simp
/-- what a text becomes when each sign c gives way to z -/
def sb (c : Nat) (z : List Nat) (x : List Nat) : List Nat := x.flatMap fun d => if d = c then z else [d]
theorem sb_free {c : Nat} {z x : List Nat} (h : c ∉ x) : sb c z x = x := by
  unfold sb
  induction x with
  | nil => rfl
  | cons d x ih =>
    rw [List.flatMap_cons, ih (fun q => h (.tail _ q)), if_neg (fun q => h (by rw [q]; exact .head _))]
    rfl
theorem join_sb {c : Nat} {z : List Nat} : ∀ {ps : List Str} {x : List Nat}, Str.join (T [c]) ps = T x → (∀ p ∈ ps, c ∉ p.cps.toList) → Str.join (T z) ps = T (sb c z x)
  | [], x, e, _ => by
    have : x = [] := (T_inj.mp e).symm
    subst this; rfl
  | [p], x, e, h => by
    have e' : p = T x := e
    show p = _
    rw [sb_free (by have := h p (.head _); rw [e'] at this; simpa using this), e']
  | p :: q :: r, x, e, h => by
    have e' : p ++ T [c] ++ Str.join (T [c]) (q :: r) = T x := e
    have ih := join_sb (c := c) (z := z) (ps := q :: r) (x := (Str.join (T [c]) (q :: r)).cps.toList) (T_of _).symm fun p hp => h p (.tail _ hp)
    show p ++ T z ++ Str.join (T z) (q :: r) = _
    rw [ih]
    generalize Str.join (T [c]) (q :: r) = y at e' ih
    rw [← T_of p, ← T_of y, T_append, T_append, T_inj] at e'
    rw [← e', ← T_of p, T_append, T_append, T_inj]
    have hp := h p (.head _)
    have e1 : sb c z (p.cps.toList ++ [c] ++ y.cps.toList) = sb c z p.cps.toList ++ z ++ sb c z y.cps.toList := by
      unfold sb; simp
    rw [e1, sb_free hp]
theorem rep_eq (x z : List Nat) (c : Nat) : Str.join (T z) (Txt.split (T x) (T [c])) = T (sb c z x) :=
  join_sb (StrLaws.join_split (T x) (T [c])) (StrLaws.split_free (T x) c)
theorem join_sum (y : Str) : ∀ ps : List Str, (ps.map (·.length)).sum ≤ (Str.join y ps).length
  | [] => Nat.zero_le _
  | [p] => by show p.length + 0 ≤ p.length; omega
  | p :: q :: r => by
    have := join_sum y (q :: r)
    have e : (Str.join y (p :: q :: r)).length = p.length + y.length + (Str.join y (q :: r)).length := by
      show (p ++ y ++ Str.join y (q :: r)).length = _
      rw [Str.length_append, Str.length_append]
    rw [e, List.map_cons, List.sum_cons]
    omega
theorem foldl_len (k : Nat) : ∀ (l : List Str) (a : Nat), l.foldl (fun a s => a + s.length + k) a = a + (l.map (·.length)).sum + l.length * k
  | [], a => by simp
  | s :: l, a => by
    rw [List.foldl_cons, foldl_len k l, List.map_cons, List.sum_cons, List.length_cons, Nat.add_mul]
    omega
theorem joinOk {sep : Str} {texts : List Str} (h : (texts.map (·.length)).sum + texts.length * sep.length ≤ 1000000) : JoinOk sep texts = true := by
  unfold JoinOk Builtin.Str.tooLong
  have e : texts.toArray.foldl (· + ·.length + sep.length) 0 = texts.foldl (fun a s => a + s.length + sep.length) 0 := by simp
  rw [e, foldl_len]
  have : ¬ (0 + (texts.map (·.length)).sum + texts.length * sep.length > sizeLine) := by
    have : sizeLine = 16777216 := by decide
    omega
  rw [decide_eq_false this]; rfl
section
variable {S : Shared} {w : World} {A : Around} {h h' h₀ : Heap} {env : Env} {L : Nat} {m mg mb : Str → Option Value} {l l' : List (Str × Value)}
theorem rGMsplit {x : Str} {t : Tok} {pl : Sem Bool} {Q : Value × List Value → Heap → Prop} (q : Q (.builtin "str.split", [.str x t]) h) : W S w A (getMethod (.str x t) (Str.ofString "split") pl) Q h :=
  ⟨fun _ => by with_reducible exact GM.split ⟨_, _, rfl, q⟩⟩
theorem rGMjoin {x : Str} {t : Tok} {pl : Sem Bool} {Q : Value × List Value → Heap → Prop} (q : Q (.builtin "str.join", [.str x t]) h) : W S w A (getMethod (.str x t) (Str.ofString "join") pl) Q h :=
  ⟨fun _ => by with_reducible exact GM.join ⟨_, _, rfl, q⟩⟩
theorem rGMindex {x : Str} {t : Tok} {pl : Sem Bool} {Q : Value × List Value → Heap → Prop} (q : Q (.builtin "str.index", [.str x t]) h) : W S w A (getMethod (.str x t) (Str.ofString "index") pl) Q h :=
  ⟨fun _ => by with_reducible exact GM.index ⟨_, _, rfl, q⟩⟩
theorem rSplit {x : List Nat} {c : Nat} {t u : Tok} {Q : Value → Heap → Prop} (hx : x.length ≤ 1000)
    (q : ∀ h' D l, Grow h h' → l.map (·.1) = Txt.split (T x) (T [c]) → h'.IsList D (strValues l).toArray → Q (.ref D) h') : W S w A (call (.builtin "str.split") [.str (T x) t, .str (T [c]) u]) Q h := by
  have hs : sizeLine = 16777216 := by decide
  refine ⟨fun _ => SCH.split1 (P := Grow h) (fun _ _ g => g.trans (Grow.push _ _)) (Grow.refl h) rfl (fun D l h' k e g hl => ⟨_, _, rfl, q h' D l g e hl⟩) (by rw [T_length]; omega) ?_⟩
  have e1 := StrLaws.occ_length_le (T x) (T [c]) 0 (T x).length ((T x).length + 1)
  rw [len_partsBetween]
  have : (T x).length = x.length := T_length x
  omega
theorem rJoin {D : Nat} {l : List (Str × Tok)} {sep : Str} {t : Tok} {texts : List Str} {Q : Value → Heap → Prop} (x : h.IsList D (strValues l).toArray) (e : l.map (·.1) = texts) (ok : JoinOk sep texts = true) (q : ∀ tk, Q (.str (Str.join sep texts) tk) h) :
    W S w A (call (.builtin "str.join") [.str sep t, .ref D]) Q h :=
  ⟨fun _ => SC.join x e ok fun t' k => ⟨_, _, rfl, by
    have : Txt.join sep texts = Str.join sep texts := StrLaws.glued_eq_join sep texts
    rw [this]; exact q t'⟩⟩
end
end Mine
open PySem PySem.W PyProof.Rows PySem.Calls
set_option Elab.async false
set_option maxRecDepth 100000
set_option maxHeartbeats 4000000
namespace Mine
section
variable {S : Shared} {w : World} {A : Around} {h h' h₀ : Heap} {env : Env} {L : Nat} {m mg mb : Str → Option Value} {l l' : List (Str × Value)}
/-- the call of a def of the text whose binding may make things -/
theorem rCallG {a : Nat} {fd : FuncData} {body : List Stmt} {args : List Value} {kw : List (Str × Value)} {Q : Value → Heap → Prop} {n : Nat}
    (G : Gl w mg mb h) (O : OkA n A) (ho : (KK w).lookup a = some { cls := .type "function", data := .func fd }) (hc : codeIn (KK w) fd.code fd.qualname = true)
    (hb : fd.body = .stmts body) (hcell : ∀ x ∈ fd.scope.names, x.2 ≠ .cell)
    (q : W S w A.in1 (bindArgs fd ⟨args, kw⟩) (fun binds h₀ => (∀ x ∈ binds, fd.scope.names.lookup x.1 = some .local) ∧ Gl w mg mb h₀ ∧ ∀ h₁, Fr h₀ h₀.objs.size h₁ (fun x => binds.reverse.lookup x) →
      W S w (A.deeper (callEnv fd h₀.objs.size a)) (execs body (callEnv fd h₀.objs.size a)) (fun f h' => Q (match f with | .ret v => v | _ => .none) h') h₁) h)
    (hn : n ≤ 100 := by omega) (hco : fd.scope.isCoroutine = false := by rfl) (hgen : fd.scope.isGenerator = false := by rfl) (hk : fd.scope.kind = .function := by rfl) :
    W S w A (call (.ref a) args kw) Q h :=
  ⟨fun tk => wpAny_call (codeAny_call_function (O.room hn) (G.k _ _ ho) rfl hco hgen hb (codeRec_of G.k hc) (q.run fun binds h₀ tk₀ q₀ => by
    obtain ⟨hloc, G₀, q⟩ := q₀
    refine wpAny_newFunctionEnv hcell hloc (fun h₁ hns hsb => ⟨G₀.nl.fresh _ hsb, codeAny_func ?_⟩) hk
    refine (q h₁ ⟨hns, fun b o e => hsb.extBut b o (Nat.ne_of_lt (Heap.lt_size e)) (Heap.get?_push_of_some _ e), Nat.le_refl _⟩).run fun f h' tk' q' => ⟨_, _, rfl, q'⟩))⟩
theorem rNewTuple {vs : List Value} {Q : Value → Heap → Prop} (hz : vs.length ≤ 1000) (q : ∀ h' a, Grow h h' → h.objs.size ≤ a → IsTup h' a vs.toArray → Q (.ref a) h') : W S w A (newTuple vs) Q h :=
  ⟨fun _ => wpAny_newTuple ⟨_, _, rfl, q _ _ (Grow.push _ _) (Nat.le_refl _) ⟨_, Heap.get?_push_size _ rfl, rfl, _, rfl⟩⟩ (Nat.le_trans hz (by decide))⟩
theorem rTTup {a : Nat} {vs : List Value} {Q : Bool → Heap → Prop} (x : IsTup h a vs.toArray) (hz : vs.length ≤ 1000) (q : Q (!vs.isEmpty) h) : W S w A (truthy (.ref a)) Q h :=
  ⟨fun _ => truthy_tuple x (by simp; omega) ⟨_, _, rfl, by simpa using q⟩⟩
theorem rGetT {value slice : Expr} {a : Nat} {vs : List Value} {k : Nat} {u : Tok} {v : Value} {Q : Value → Heap → Prop} (x : IsTup h a vs.toArray) (hk2 : k ≤ 1000) (hx : vs[k]? = some v) (q : Q v h)
    (hs : subscripted slice false (.ref a) (.int (k : Int) u) = operate [.ref a, .int (k : Int) u] (getItem (.ref a) (.int (k : Int) u))) : W S w A (subscriptTail value slice (.ref a) (.int (k : Int) u)) Q h :=
  ⟨fun _ => item_tupleT (j := k) x (by omega) (by omega) (by
    have : k < vs.length := (List.getElem?_eq_some_iff.mp hx).1
    unfold seqIndex?
    simp only [if_neg (show ¬ ((k : Int) < 0) by omega)]
    rw [if_pos (by rw [Bool.and_eq_true, decide_eq_true_eq, decide_eq_true_eq]; omega)]
    simp) hx ⟨_, _, rfl, q⟩ hs⟩
/-- value[e:] of a tuple -/
theorem rSlT {value e : Expr} {p pos : Pos} {Q : Value → Heap → Prop}
    (q : W S w A (eval value env) (fun o h₁ => W S w A (eval e env) (fun vi h₂ => ∃ (a : Nat) (vs : List Value) (i : Nat) (u : Tok), o = .ref a ∧ vi = .int (i : Int) u ∧ IsTup h₂ a vs.toArray ∧ 1 ≤ i ∧ i ≤ vs.length ∧ vs.length ≤ 1000 ∧
      ∀ b h', Grow h₂ h' → IsTup h' b (vs.drop i).toArray → Q (.ref b) h') h₁) h)
    (ht : ∀ o r, letTemporaryGo value o r = Pure.pure () := by intro _ _; rfl) : W S w A (eval (.Subscript value (.Slice (some e) none none p) pos) env) Q h := ⟨fun _ => by
  refine wpAny_Subscript_Slice (T := "tuple") slot_tuple_getitem.lookup (q.run fun o h₁ tk₁ q₁ => wpAny_Slice (W.run (t := evalPart (some e) env) q₁ fun vi h₂ tk₂ q₂ => ?_)) ht
  obtain ⟨a, vs, i, u, rfl, rfl, x, h1, h2, h3, q⟩ := q₂
  rw [evalPart_none]
  refine wpAny_pure (wpAny_pure ?_)
  have x' : IsTup (h₂.push { cls := .type "slice", data := .fields #[.int (i : Int) u, .none, .none] }) a vs.toArray := x.keeps (Grow.push _ _)
  refine ⟨x'.typeIs, getItem_tuple_from x' (Heap.IsSliceOf.new ..) h1 (by simpa using h2) ⟨_, _, rfl, q _ _ ((Grow.push _ _).trans (Grow.push _ _)) ⟨_, Heap.get?_push_size _ rfl, rfl, 0, by simp⟩⟩ (by simp; exact Nat.le_trans h3 (by decide))⟩⟩
def repS (i : Nat) : Stmt := (bodyOf (stm 10)).getD i (.Pass default)
def repFd : FuncData := fdOf "replace" 10 .none .none (.str "cpy313.pydoc" 253) 52
theorem look_rep (w : World) : (KK w).lookup 53 = some { cls := .type "function", data := .func repFd } := by kernel_rfl
abbrev repE (L : Nat) : Env := callEnv repFd L 53
theorem bind_rep (x : Value) (vs : List Value) : bindArgs repFd ⟨x :: vs, []⟩ = (newTuple vs >>= fun p => Pure.pure [(Str.ofString "text", x), (Str.ofString "pairs", p)]) := by cases vs <;> rfl
/-- what the pairs make of a text -/
def reps (ps : List (Nat × List Nat)) (x : List Nat) : List Nat := ps.foldl (fun x p => sb p.1 p.2 x) x
def flat (ps : List (Nat × List Nat)) : List (List Nat) := ps.flatMap fun p => [[p.1], p.2]
theorem sb_len {c : Nat} {z x : List Nat} (hz : z.length ≤ 1) : (sb c z x).length ≤ x.length := by
  unfold sb
  induction x with
  | nil => simp
  | cons d x ih =>
    rw [List.flatMap_cons, List.length_append, List.length_cons]
    split
    · omega
    · rw [List.length_singleton]; omega
theorem rep_call {n : Nat} {x : List Nat} {ps : List (Nat × List Nat)} {t : Tok} {vs : List Value} {Q : Value → Heap → Prop} (G : Gl w mg mb h) (O : OkA n A) (hn : n ≤ 70) (hx : x.length ≤ 100) (hp : ps.length ≤ 100) (hz : ∀ p ∈ ps, p.2.length ≤ 1)
    (hv : StrsAre vs ((flat ps).map T)) (q : ∀ h' tk, Grow h h' → Q (.str (T (reps ps x)) tk) h') : W S w A (call (.ref 53) (.str (T x) t :: vs)) Q h := by
  have hlen : vs.length = 2 * ps.length := by
    rw [hv.len_eq, List.length_map]
    unfold flat
    clear hv q hz hp
    induction ps with
    | nil => rfl
    | cons p ps ih => rw [List.flatMap_cons, List.length_append, ih, List.length_cons]; simp; omega
  refine rCallG G O (look_rep w) (by kernel_rfl) rfl (by decide) ?_
  rw [bind_rep]
  refine W.bind (rNewTuple (by omega) fun h₁ a g₁ _ ht => W.pure ⟨locs rfl, G.grow g₁, fun h₂ F => ?_⟩)
  have F := Lo.of (names := ["text", "pairs"]) F rfl (by decide)
  have ht₂ := ht.keeps F.keep
  have O := O.deeper (env := repE h₁.objs.size)
  refine rSeq (rWhile (fun n h => ∃ (ps' : List (Nat × List Nat)) (x' : List Nat) (tk : Tok) (a' : Nat) (vs' : List Value), n = ps'.length ∧ reps ps' x' = reps ps x ∧ x'.length ≤ 100 ∧ (∀ p ∈ ps', p.2.length ≤ 1) ∧ vs'.length ≤ 1000 ∧ StrsAre vs' ((flat ps').map T) ∧
    IsTup h a' vs'.toArray ∧ Lo h₁ h₁.objs.size h [("text", .str (T x') tk), ("pairs", .ref a')]) (fun n h hi => ?_) ps.length ⟨ps, x, t, a, vs, rfl, rfl, hx, hz, by omega, hv, ht₂, F⟩)
  obtain ⟨ps', x', tk, a', vs', rfl, er, hx', hz', hl', hv', ht', F'⟩ := hi
  refine rTVal (rL F' rfl (rTTup ht' hl' ⟨fun hb => ?_, fun hb => ?_⟩)) tvName
  · cases ps' with
    | nil =>
      have : vs' = [] := by cases hv'; rfl
      rw [this] at hb; cases hb
    | cons p ps' =>
      obtain ⟨c, z⟩ := p
      have e : (flat ((c, z) :: ps')).map T = T [c] :: T z :: (flat ps').map T := rfl
      rw [e] at hv'
      cases hv' with
      | cons _ t1 hv' =>
      cases hv' with
      | @cons _ t2 vs₂ _ hv' =>
      -- text = pairs[1].join(text.split(pairs[0]))
      have hz1 : z.length ≤ 1 := hz' (c, z) (.head _)
      refine rSeq (rAsgN (rMeth abS (rSub (rL F' rfl (rInt fun _ => rGetT (k := 1) ht' (by omega) rfl (rGMjoin (rCM1 (rItC ?_))) sbConst)))))
      refine rMeth abN (rL F' rfl (rGMsplit (rCM1 (rItC (rSub (rL F' rfl (rInt fun _ => rGetT (k := 0) ht' (by omega) rfl (rItN (rSplit (by omega) fun h₃ D l g₃ el hl => rItN ?_)) sbConst)))))))
      refine rJoin hl el (joinOk ?_) fun tk' => ?_
      · have h1 := join_sum (T [c]) (Txt.split (T x') (T [c]))
        rw [StrLaws.join_split, T_length] at h1
        have h2 := split_le (T x') (T [c])
        rw [T_length] at h2
        have h3 : (T z).length ≤ 1 := by rw [T_length]; exact hz1
        have h4 : (Txt.split (T x') (T [c])).length * (T z).length ≤ (Txt.split (T x') (T [c])).length * 1 := Nat.mul_le_mul_left _ h3
        omega
      rw [rep_eq]
      have F₃ := F'.grow g₃
      refine rS F₃ fun h₄ F₄ s₄ => nx_next ?_
      have hta : a' ≠ h₁.objs.size := by
        intro e
        obtain ⟨o, e1, _, _, d⟩ := ht'.keeps g₃
        obtain ⟨m, Fm, _⟩ := F₃
        obtain ⟨o', _, _, e', d', _⟩ := Fm.ns
        rw [e] at e1; rw [e1] at e'; cases e'; rw [d] at d'; cases d'
      have ht₄ : IsTup h₄ a' (Value.str (T [c]) t1 :: Value.str (T z) t2 :: vs₂).toArray := let ⟨o, e, r⟩ := ht'.keeps g₃; ⟨o, get_same e s₄ hta, r⟩
      -- pairs = pairs[2:]
      refine rSeq (rAsgN (rSlT (rL F₄ rfl (rInt fun _ => ⟨a', _, 2, _, rfl, rfl, ht₄, by omega, by simp, hl', fun b h₅ g₅ htb => ?_⟩))))
      have F₅ := F₄.grow g₅
      refine rS F₅ fun h₆ F₆ s₆ => nx_next (rNil ⟨ps'.length, by simp, ps', sb c z x', tk', b, vs₂, rfl, er, Nat.le_trans (sb_len hz1) hx', fun p hp => hz' p (.tail _ hp), by simp at hl'; omega, hv', ?_, F₆⟩)
      have htb' : b ≠ h₁.objs.size := by
        intro e
        obtain ⟨o, e1, _, _, d⟩ := htb
        obtain ⟨m, Fm, _⟩ := F₅
        obtain ⟨o', _, _, e', d', _⟩ := Fm.ns
        rw [e] at e1; rw [e1] at e'; cases e'; rw [d] at d'; cases d'
      obtain ⟨o, e, r⟩ := htb
      exact ⟨o, get_same e s₆ htb', r⟩
  · cases ps' with
    | cons p ps' =>
      cases hv'; cases hb
    | nil =>
      refine rNil (nx_next (rSeq (rRet (rL F' rfl (nx_ret ?_)))))
      have := q h tk (g₁.trans F'.keep)
      rw [← er] at this
      exact this
end
end Mine
open PySem PySem.W PyProof.Rows PySem.Calls
set_option Elab.async false
set_option maxRecDepth 100000
set_option maxHeartbeats 4000000
namespace Mine
section
variable {S : Shared} {w : World} {A : Around} {h h' h₀ : Heap} {env : Env} {L : Nat} {m mg mb : Str → Option Value} {l l' : List (Str × Value)}
theorem rFd {a b : Int} {t u : Tok} {Q : Value → Heap → Prop} (hb : b ≠ 0) (hp : Builtin.divisionGoesByPylong a b = false) (q : ∀ tk, Q (.int (a.fdiv b) tk) h) : W S w A (binaryOp .FloorDiv (.int a t) (.int b u)) Q h :=
  ⟨fun _ => floordiv_int hb ⟨_, _, rfl, q _⟩ (Or.inl hp)⟩
theorem rMod {a b : Int} {t u : Tok} {Q : Value → Heap → Prop} (hb : b ≠ 0) (q : ∀ tk, Q (.int (a.fmod b) tk) h) : W S w A (binaryOp .Mod (.int a t) (.int b u)) Q h := ⟨fun _ => mod_int' hb ⟨_, _, rfl, q _⟩⟩
theorem rIsN {v : Value} {Q : Value → Heap → Prop} (q : Q (.bool (v == .none)) h) : W S w A (compareOp .Is v .none) Q h := ⟨fun _ => is_none ⟨_, _, rfl, q⟩⟩
def brFd : FuncData := fdOf "bisect_right" 7 (.ref 29) (.ref 30) (.str "cpy313.bisect" 223) 36
def blFd : FuncData := fdOf "bisect_left" 8 (.ref 38) (.ref 39) (.str "cpy313.bisect" 223) 45
theorem look_br (w : World) : (KK w).lookup 37 = some { cls := .type "function", data := .func brFd } := by kernel_rfl
theorem look_bl (w : World) : (KK w).lookup 46 = some { cls := .type "function", data := .func blFd } := by kernel_rfl
theorem look_29 (w : World) : (KK w).lookup 29 = some { cls := .type "tuple", data := .seq #[.int 0 225, .none] } := by kernel_rfl
theorem look_38 (w : World) : (KK w).lookup 38 = some { cls := .type "tuple", data := .seq #[.int 0 239, .none] } := by kernel_rfl
/-- a callable of one text, on each of these texts -/
def Key (w : World) (n : Nat) (h : Heap) (f : Nat) (xs : List (List Nat)) (P : Nat → Value → Prop) : Prop :=
  FnAt f h ∧ ∀ (S : Shared) (A : Around) (h' : Heap) (i : Nat) (x : List Nat) (t : Tok) (Q : Value → Heap → Prop), OkA n A → Grow h h' → xs[i]? = some x → (∀ h'' v, Grow h' h'' → P i v → Q v h'') → W S w A (call (.ref f) [.str (T x) t]) Q h'
theorem bind_br (a x : Value) (f : Value) {tk : Nat} (G : Gl w mg mb h) : BindsTo (St S h tk) brFd ⟨[a, x], [(Str.ofString "key", f)]⟩
    [(Str.ofString "a", a), (Str.ofString "x", x), (Str.ofString "lo", .int 0 225), (Str.ofString "hi", .none), (Str.ofString "key", f)] :=
  BindsTo.of_defaults (T := 29) rfl (G.k _ _ (look_29 w)) rfl rfl rfl
theorem rLenL {a : Nat} {vs : List Value} {Q : Value → Heap → Prop} (x : h.IsList a vs.toArray) (hz : vs.length ≤ 1000) (q : ∀ tk, Q (.int (vs.length : Int) tk) h) : W S w A (call (.builtin "len") [.ref a]) Q h :=
  ⟨fun _ => len_list x (by simp; omega) ⟨_, _, rfl, by simpa using q _⟩⟩
theorem rLenSL {a : Nat} {xs : List (List Nat)} {Q : Value → Heap → Prop} (x : SL h a xs) (hz : xs.length ≤ 1000) (q : ∀ tk, Q (.int (xs.length : Int) tk) h) : W S w A (call (.builtin "len") [.ref a]) Q h := by
  obtain ⟨vs, x, y⟩ := x
  have e : vs.length = xs.length := by rw [y.len_eq, List.length_map]
  exact rLenL x (by omega) fun tk => by rw [e]; exact q tk
theorem rLenIL {a : Nat} {xs : List Int} {Q : Value → Heap → Prop} (x : IL h a xs) (hz : xs.length ≤ 1000) (q : ∀ tk, Q (.int (xs.length : Int) tk) h) : W S w A (call (.builtin "len") [.ref a]) Q h := by
  obtain ⟨vs, x, y⟩ := x
  have e : vs.length = xs.length := intsAre_len y
  exact rLenL x (by omega) fun tk => by rw [e]; exact q tk
abbrev brE (L : Nat) : Env := callEnv brFd L 37
theorem fdiv2 (a b : Nat) : ((a : Int) + (b : Int)).fdiv 2 = (((a + b) / 2 : Nat) : Int) := by
  rw [Int.fdiv_eq_ediv_of_nonneg _ (by omega)]; omega
theorem br_call {n : Nat} {la f : Nat} {y : Int} {tx : Tok} {xs : List (List Nat)} {P : Nat → Value → Prop} (up : Nat → Prop) {Q : Value → Heap → Prop} (G : Gl w mg mb h) (O : OkA n A) (hn : n ≤ 50)
    (hl : SL h la xs) (hz : xs.length ≤ 100) (K : Key w (n + 1) h f xs P) (hP : ∀ i v, i < xs.length → P i v → ∃ r tk, v = .int r tk ∧ (y < r ↔ up i)) (mono : ∀ i j, i ≤ j → j < xs.length → up i → up j)
    (q : ∀ h' (r : Nat) tk, Grow h h' → r ≤ xs.length → (∀ i, i < r → ¬ up i) → (∀ i, r ≤ i → i < xs.length → up i) → Q (.int (r : Int) tk) h') :
    W S w A (call (.ref 37) [.ref la, .int y tx] [(Str.ofString "key", .ref f)]) Q h := by
  refine rCallFn G O (look_br w) (by kernel_rfl) rfl (fun tk => bind_br _ _ _ G) (by decide) (locs rfl) fun h₁ F => ?_
  have F := Lo.of (names := ["a", "x", "lo", "hi", "key"]) F rfl (by decide)
  have O := O.deeper (env := brE h.objs.size)
  have G₁ := G.grow F.keep
  -- if lo < 0
  refine rSeq (rIf (rTCmp (rL F rfl (rInt fun _ => rLt (rTBool ⟨fun hb => absurd hb (by decide), fun _ => rNil (nx_next ?_)⟩)))))
  -- if hi is None
  refine rSeq (rIf (rTCmp (rL F rfl (rNone (rIsN (rTBool ⟨fun _ => ?_, fun hb => absurd hb (by decide)⟩))))))
  refine rSeq (rAsgN (rCallN (rBlt G₁ G.fr.1 boot_len (rCB (rItC (rL F rfl (rItN (rLenSL (hl.grow F.keep) (by omega) fun th => ?_))))))))
  refine rS F fun h₂ F₂ s₂ => nx_next (rNil (nx_next ?_))
  -- if key is None
  refine rSeq (rIf (rTCmp (rL F₂ rfl (rNone (rIsN (rTBool ⟨fun hb => absurd (eq_of_beq hb) nofun, fun _ => ?_⟩))))))
  refine rSeq (rWhile (fun k h' => ∃ (lo hi : Nat) (tl th : Tok), k = hi - lo ∧ lo ≤ hi ∧ hi ≤ xs.length ∧ (∀ i, i < lo → ¬ up i) ∧ (∀ i, hi ≤ i → i < xs.length → up i) ∧
    Lo h h.objs.size h' [("a", .ref la), ("x", .int y tx), ("lo", .int (lo : Int) tl), ("hi", .int (hi : Int) th), ("key", .ref f)]) (fun k h' hi => ?_) xs.length ⟨0, xs.length, _, _, by omega, by omega, by omega, by omega, by omega, F₂⟩)
  obtain ⟨lo, hi, tl, th, rfl, h1, h2, hlo, hhi, F'⟩ := hi
  refine rTCmp (rL F' rfl (rL F' rfl (rLt (rTBool ⟨fun hb => ?_, fun hb => ?_⟩))))
  · rw [decide_eq_true_eq] at hb
    -- mid = (lo + hi) // 2
    refine rSeq (rAsgN (rBin (rBin (rL F' rfl (rL F' rfl (rAdd fun _ => rInt fun _ => rFd (by decide) (PyProof.noPylong_small (by decide)) fun tm => ?_))))))
    rw [fdiv2]
    have hm1 : lo ≤ (lo + hi) / 2 := by omega
    have hm2 : (lo + hi) / 2 < hi := by omega
    generalize (lo + hi) / 2 = mid at hm1 hm2
    refine rS F' fun h₃ F₃ s₃ => nx_next ?_
    -- if x < key(a[mid])
    have hx : xs[mid]? = some (xs[mid]'(by omega)) := by simp
    refine rSeq (rIf (rTCmp (rL F₃ rfl (rCallN (rL F₃ rfl (rCF (FnAt.grow K.1 F₃.keep) (rItC (rSub (rL F₃ rfl (rL F₃ rfl (rGetSL (hl.grow F₃.keep) (by omega) hx (fun _ => rItN ⟨FnAt.grow K.1 F₃.keep, ?_⟩) sbName)))))))))))
    refine K.2 _ _ h₃ mid _ _ _ O F₃.keep hx fun h₄ v g₄ pv => ?_
    obtain ⟨r, tk, rfl, hr⟩ := hP mid v (by omega) pv
    have F₄ := F₃.grow g₄
    refine rLt (rTBool ⟨fun hc => ?_, fun hc => ?_⟩)
    · rw [decide_eq_true_eq] at hc
      refine rSeq (rAsgN (rL F₄ rfl (rS F₄ fun h₅ F₅ s₅ => nx_next (rNil (nx_next (rNil ⟨mid - lo, by omega, lo, mid, _, _, rfl, hm1, by omega, hlo, fun i hi1 hi2 => ?_, F₅.take 5⟩))))))
      exact mono mid i hi1 hi2 (hr.mp hc)
    · rw [decide_eq_false_iff_not] at hc
      refine rSeq (rAsgN (rBin (rL F₄ rfl (rInt fun _ => rAdd fun _ => rS F₄ fun h₅ F₅ s₅ => nx_next (rNil (nx_next (rNil ⟨hi - (mid + 1), by omega, mid + 1, hi, _, _, rfl, by omega, h2, fun i hi1 hu => ?_, hhi, F₅.take 5⟩)))))))
      exact hc (hr.mpr (mono i mid (by omega) (by omega) hu))
  · rw [decide_eq_false_iff_not] at hb
    have : lo = hi := by omega
    subst this
    refine rNil (nx_next (rNil (nx_next ?_)))
    exact rSeq (rRet (rL F' rfl (nx_ret (q h' lo _ F'.keep h2 hlo hhi))))
end
end Mine
open PySem PySem.W PyProof.Rows PySem.Calls
set_option Elab.async false
set_option maxRecDepth 100000
set_option maxHeartbeats 4000000
namespace Mine
section
variable {S : Shared} {w : World} {A : Around} {h h' h₀ : Heap} {env : Env} {L : Nat} {m mg mb : Str → Option Value} {l l' : List (Str × Value)}
theorem look_39 (w : World) : ∃ hs t, (KK w).lookup 39 = some { cls := .type "dict", data := .dict #[⟨hs, .str (Str.ofString "key") t, .none⟩] 1 } := ⟨_, _, rfl⟩
theorem bind_bl (a x : Value) {tk : Nat} (G : Gl w mg mb h) : BindsTo (St S h tk) blFd ⟨[a, x], []⟩
    [(Str.ofString "a", a), (Str.ofString "x", x), (Str.ofString "lo", .int 0 239), (Str.ofString "hi", .none), (Str.ofString "key", .none)] := by
  intro M A E Q hq
  obtain ⟨hs, t, e⟩ := look_39 w
  intro Γ p _
  exact ⟨_, G.k _ _ (look_38 w), _, G.k _ _ e, hq⟩
abbrev blE (L : Nat) : Env := callEnv blFd L 46
theorem bl_call {n : Nat} {la : Nat} {y : Int} {tx : Tok} {ns : List Int} {Q : Value → Heap → Prop} (G : Gl w mg mb h) (O : OkA n A) (hn : n ≤ 50)
    (hl : IL h la ns) (hz : ns.length ≤ 100) (mono : ∀ i j, i ≤ j → j < ns.length → ns.getD i 0 ≤ ns.getD j 0)
    (q : ∀ h' (r : Nat) tk, Grow h h' → r ≤ ns.length → (∀ i, i < r → ns.getD i 0 < y) → (∀ i, r ≤ i → i < ns.length → y ≤ ns.getD i 0) → Q (.int (r : Int) tk) h') :
    W S w A (call (.ref 46) [.ref la, .int y tx]) Q h := by
  refine rCallFn G O (look_bl w) (by kernel_rfl) rfl (fun tk => bind_bl _ _ G) (by decide) (locs rfl) fun h₁ F => ?_
  have F := Lo.of (names := ["a", "x", "lo", "hi", "key"]) F rfl (by decide)
  have O := O.deeper (env := blE h.objs.size)
  have G₁ := G.grow F.keep
  -- if lo < 0
  refine rSeq (rIf (rTCmp (rL F rfl (rInt fun _ => rLt (rTBool ⟨fun hb => absurd hb (by decide), fun _ => rNil (nx_next ?_)⟩)))))
  -- if hi is None
  refine rSeq (rIf (rTCmp (rL F rfl (rNone (rIsN (rTBool ⟨fun _ => ?_, fun hb => absurd hb (by decide)⟩))))))
  refine rSeq (rAsgN (rCallN (rBlt G₁ G.fr.1 boot_len (rCB (rItC (rL F rfl (rItN (rLenIL (hl.grow F.keep) (by omega) fun th => ?_))))))))
  refine rS F fun h₂ F₂ s₂ => nx_next (rNil (nx_next ?_))
  -- if key is None
  refine rSeq (rIf (rTCmp (rL F₂ rfl (rNone (rIsN (rTBool ⟨fun _ => ?_, fun hb => absurd hb (by decide)⟩))))))
  refine rSeq (rWhile (fun k h' => ∃ (lo hi : Nat) (tl th : Tok), k = hi - lo ∧ lo ≤ hi ∧ hi ≤ ns.length ∧ (∀ i, i < lo → ns.getD i 0 < y) ∧ (∀ i, hi ≤ i → i < ns.length → y ≤ ns.getD i 0) ∧
    Lo h h.objs.size h' [("a", .ref la), ("x", .int y tx), ("lo", .int (lo : Int) tl), ("hi", .int (hi : Int) th), ("key", .none)]) (fun k h' hi => ?_) ns.length ⟨0, ns.length, _, _, by omega, by omega, by omega, by omega, by omega, F₂⟩)
  obtain ⟨lo, hi, tl, th, rfl, h1, h2, hlo, hhi, F'⟩ := hi
  refine rTCmp (rL F' rfl (rL F' rfl (rLt (rTBool ⟨fun hb => ?_, fun hb => ?_⟩))))
  · rw [decide_eq_true_eq] at hb
    -- mid = (lo + hi) // 2
    refine rSeq (rAsgN (rBin (rBin (rL F' rfl (rL F' rfl (rAdd fun _ => rInt fun _ => rFd (by decide) (PyProof.noPylong_small (by decide)) fun tm => ?_))))))
    rw [fdiv2]
    have hm1 : lo ≤ (lo + hi) / 2 := by omega
    have hm2 : (lo + hi) / 2 < hi := by omega
    generalize (lo + hi) / 2 = mid at hm1 hm2
    refine rS F' fun h₃ F₃ s₃ => nx_next ?_
    -- if a[mid] < x
    have hx : ns[mid]? = some (ns.getD mid 0) := by simp [List.getD, List.getElem?_eq_getElem (show mid < ns.length by omega)]
    refine rSeq (rIf (rTCmp (rSub (rL F₃ rfl (rL F₃ rfl (rGetIL (hl.grow F₃.keep) (by omega) hx (fun _ => rL F₃ rfl (rLt (rTBool ⟨fun hc => ?_, fun hc => ?_⟩))) sbName))))))
    · rw [decide_eq_true_eq] at hc
      refine rSeq (rAsgN (rBin (rL F₃ rfl (rInt fun _ => rAdd fun _ => rS F₃ fun h₅ F₅ s₅ => nx_next (rNil (nx_next (rNil ⟨hi - (mid + 1), by omega, mid + 1, hi, _, _, rfl, by omega, h2, fun i hi1 => ?_, hhi, F₅.take 5⟩)))))))
      exact Int.lt_of_le_of_lt (mono i mid (by omega) (by omega)) hc
    · rw [decide_eq_false_iff_not] at hc
      refine rSeq (rAsgN (rL F₃ rfl (rS F₃ fun h₅ F₅ s₅ => nx_next (rNil (nx_next (rNil ⟨mid - lo, by omega, lo, mid, _, _, rfl, hm1, by omega, hlo, fun i hi1 hi2 => ?_, F₅.take 5⟩))))))
      exact Int.le_trans (Int.not_lt.mp hc) (mono mid i hi1 hi2)
  · rw [decide_eq_false_iff_not] at hb
    have : lo = hi := by omega
    subst this
    refine rNil (nx_next (rNil (nx_next ?_)))
    exact rSeq (rRet (rL F' rfl (nx_ret (q h' lo _ F'.keep h2 hlo hhi))))
end
end Mine
open PySem PySem.W PyProof.Rows PySem.Calls
set_option Elab.async false
set_option maxRecDepth 100000
set_option maxHeartbeats 4000000
namespace Mine
section
variable {S : Shared} {w : World} {A : Around} {h h' h₀ : Heap} {env : Env} {L : Nat} {m mg mb : Str → Option Value} {l l' : List (Str × Value)}
/-- for x in a source: J i holds ahead of turn i; a turn changes the places wrs alone -/
theorem rForS {x : Str} {px : Pos} {iter : Expr} {body orelse : List Stmt} {pos : Pos} {Q : Flow → Heap → Prop} (fx : List Nat) (n : Nat) (P : Nat → Value → Prop)
    (q : W S w A (eval iter env) (fun xv h₁ => Src S w A h₁ xv fx n P ∧ ∃ (J : Nat → Heap → Prop) (wrs : List Nat), (∀ b : Nat, b ∈ wrs → b < h₁.objs.size) ∧ (∀ b : Nat, b ∈ wrs → b ∉ fx) ∧ J 0 h₁ ∧
      (∀ i h h', J i h → Heap.ExtBut h₁.objs.size h h' → J i h') ∧
      (∀ i v h, i < n → P i v → J i h → W S w A (storeName env x v) (fun _ h₂ => W S w A (execs body env) (fun f h₃ => match f with
        | .next | .cont => J (i + 1) h₃ ∧ (∀ b o, b ∉ wrs → h.get? b = some o → h₃.get? b = some o) | .brk => Q .next h₃ | .ret v => Q (.ret v) h₃) h₂) h) ∧
      (∀ h, J n h → W S w A (execs orelse env) Q h)) h)
    (hs : ∀ x, foldedSetIterable iter env x = Pure.pure x := by intro _; rfl) : W S w A (exec (.For (.Name x px) iter body orelse pos) env) Q h := by
  refine rForG (q.mono fun xv h₁ q₁ => ?_) hs
  obtain ⟨src, J, wrs, w1, w2, j0, stab, turn, fin⟩ := q₁
  refine src.ok.mono fun it h₂ q₂ => ?_
  obtain ⟨Stt, o, rfl, rfl, Wk, st0, hfp⟩ := q₂
  refine ⟨fun k h => ∃ i, i + k = n ∧ J i h ∧ Stt i h, n, fun _ => rfl, ⟨0, by omega, stab _ _ _ j0 (fun b o' _ e => Grow.push _ _ _ _ e), st0⟩, fun k h ⟨i, hi, hj, hst⟩ => ?_⟩
  have ext : ∀ {h' : Heap}, (∀ b o, b ∉ [h₁.objs.size] → h.get? b = some o → h'.get? b = some o) → Heap.ExtBut h₁.objs.size h h' := fun hk b o hne e => hk b o (fun q => hne (List.mem_singleton.mp q)) e
  by_cases hk : k = 0
  · subst hk
    have : i = n := by omega
    subst this
    exact ⟨fun tk => Wk.done _ _ _ hst fun h' tk' hk => ⟨_, _, rfl, fin h' (stab _ _ _ hj (ext hk))⟩⟩
  · refine ⟨fun tk => Wk.item i _ _ _ (by omega) hst fun v h' tk' hP hst' hk => ⟨_, _, rfl, ?_⟩⟩
    show W S w A (assign (.Name x px) env v) _ _
    refine ⟨fun tk' => wpAny_assign_Name ((turn i v h' (by omega) hP (stab _ _ _ hj (ext hk))).run fun _ h₂ tk₂ q₂ => ⟨_, _, rfl, q₂.mono fun f h₃ q₃ => ?_⟩)⟩
    have nx : J (i + 1) h₃ ∧ (∀ b o, b ∉ wrs → h'.get? b = some o → h₃.get? b = some o) → ∃ m, m < k ∧ ∃ j, j + m = n ∧ J j h₃ ∧ Stt j h₃ := fun ⟨hj', hw⟩ =>
      ⟨k - 1, by omega, i + 1, by omega, hj', Wk.frame _ _ _ hst' fun b hb o e => hw b o (fun hbw => by
        rcases List.mem_cons.mp hb with e1 | hb
        · have := w1 b hbw; rw [e1] at this; exact Nat.lt_irrefl _ this
        · exact w2 b hbw hb) e⟩
    cases f with
    | next => exact nx q₃
    | cont => exact nx q₃
    | brk => exact q₃
    | ret v => exact q₃
theorem rListP {elts : List Expr} {pos : Pos} {Q : Value → Heap → Prop} (q : W S w A (spliced (backTo pos (starEach elts env))) (fun vs h₁ => vs.length ≤ 1000 ∧ ∀ h' a, Grow h₁ h' → h₁.objs.size ≤ a → h'.PlainList a vs.toArray → Q (.ref a) h') h) :
    W S w A (eval (.List elts pos) env) Q h :=
  ⟨fun _ => List_ (q.run fun vs h₁ tk₁ q₁ => wpAny_newList (s := St S h₁ tk₁) ⟨_, _, rfl, q₁.2 _ _ (Grow.push _ _) (Nat.le_refl _) ⟨_, Heap.get?_push_size _ rfl⟩⟩ (Nat.le_trans q₁.1 (by decide)))⟩
theorem rExpr {e : Expr} {pos : Pos} {Q : Flow → Heap → Prop} (q : W S w A (eval e env) (fun _ h' => Q .next h') h)
    (hi : interactive env = false := by rfl) (hs : swapsWith e none pos.line env = Pure.pure false := by rfl) : W S w A (exec (.Expr e pos) env) Q h :=
  ⟨fun _ => wpAny_Expr_any (q.run fun _ _ _ q' => ⟨_, _, rfl, q'⟩) hi hs⟩
theorem rGMapp {a : Nat} {xs : Array Value} {pl : Sem Bool} {Q : Value × List Value → Heap → Prop} (x : h.PlainList a xs) (q : Q (.builtin "list.append", [.ref a]) h) : W S w A (getMethod (.ref a) (Str.ofString "append") pl) Q h := by
  obtain ⟨n, e⟩ := x
  exact ⟨fun _ => by with_reducible exact Calls.getMethod_list_append e rfl rfl ⟨_, _, rfl, q⟩⟩
theorem rApp {a : Nat} {vs : List Value} {v : Value} {Q : Value → Heap → Prop} (x : h.PlainList a vs.toArray) (hz : vs.length ≤ 1000) (q : ∀ h', h'.PlainList a (vs ++ [v]).toArray → Heap.SameBut a h h' → Q .none h') :
    W S w A (call (.builtin "list.append") [.ref a, v]) Q h :=
  ⟨fun _ => wpAny_list_append_plain x (fun h' x' hs => ⟨_, _, rfl, q h' (by simpa using x') hs⟩) (by simp; exact Nat.le_trans hz (by decide))⟩
theorem plain_ext {a b : Nat} {xs : Array Value} (x : h.PlainList a xs) (e : Heap.ExtBut b h h') (hne : a ≠ b) : h'.PlainList a xs := let ⟨n, q⟩ := x; ⟨n, e _ _ hne q⟩
theorem plain_grow {a : Nat} {xs : Array Value} (x : h.PlainList a xs) (g : Grow h h') : h'.PlainList a xs := let ⟨n, q⟩ := x; ⟨n, g _ _ q⟩
def splFd : FuncData := fdOf "_split_list" 11 .none .none (.str "cpy313.pydoc" 253) 59
theorem look_spl (w : World) : (KK w).lookup 60 = some { cls := .type "function", data := .func splFd } := by kernel_rfl
abbrev splE (L : Nat) : Env := callEnv splFd L 60
theorem strsAre_snoc : ∀ {vs : List Value} {ys : List Str} {y : Str} {t : Tok}, StrsAre vs ys → StrsAre (vs ++ [.str y t]) (ys ++ [y])
  | _, _, _, _, .nil => .cons _ _ .nil
  | _, _, _, _, .cons y t r => .cons y t (strsAre_snoc r)
/-- the words at the places that pass | that do not -/
def pick (b : Nat → Bool) (xs : List (List Nat)) (i : Nat) : List (List Nat) := ((xs.zipIdx.take i).filter fun p => b p.2).map (·.1)
theorem pick_zero (b : Nat → Bool) (xs : List (List Nat)) : pick b xs 0 = [] := rfl
theorem pick_succ (b : Nat → Bool) {xs : List (List Nat)} {i : Nat} {x : List Nat} (h : xs[i]? = some x) : pick b xs (i + 1) = pick b xs i ++ (if b i then [x] else []) := by
  unfold pick
  have hi : i < xs.length := (List.getElem?_eq_some_iff.mp h).1
  have e : xs.zipIdx.take (i + 1) = xs.zipIdx.take i ++ [(x, i)] := by
    rw [List.take_add_one, List.getElem?_zipIdx, h]; simp
  rw [e, List.filter_append, List.map_append]
  congr 1
  cases hb : b i <;> simp [hb]
theorem spl_call {n : Nat} {la f : Nat} {xs : List (List Nat)} (b : Nat → Bool) {Q : Value → Heap → Prop} (G : Gl w mg mb h) (O : OkA n A) (hn : n ≤ 50)
    (hl : SL h la xs) (hz : xs.length ≤ 100) (K : Key w (n + 1) h f xs (fun i v => v = .bool (b i)))
    (q : ∀ h' t y z, Grow h h' → IsTup h' t #[.ref y, .ref z] → SL h' y (pick b xs xs.length) → SL h' z (pick (fun i => !b i) xs xs.length) → Q (.ref t) h') :
    W S w A (call (.ref 60) [.ref la, .ref f]) Q h := by
  refine rCallFn (binds := [("s", .ref la), ("predicate", .ref f)]) G O (look_spl w) (by kernel_rfl) rfl (fun tk => BindsTo.of_eq rfl) (by decide) (locs rfl) fun h₁ F => ?_
  have F := Lo.of (names := ["s", "predicate"]) F rfl (by decide)
  have O := O.deeper (env := splE h.objs.size)
  -- yes = []; no = []
  refine rSeq (rAsgN (rListP (rItN ⟨by simp, fun h₂ ya g₂ hy x₂ => rS (F.grow g₂) fun h₃ F₃ s₃ => nx_next ?_⟩)))
  have hLy : h.objs.size < ya := Nat.lt_of_lt_of_le F.lt hy
  have x₃ := plain_ext x₂ s₃.extBut (by omega)
  refine rSeq (rAsgN (rListP (rItN ⟨by simp, fun h₄ za g₄ hz4 x₄ => rS (F₃.grow g₄) fun h₅ F₅ s₅ => nx_next ?_⟩)))
  have hyz : ya < za := by obtain ⟨n, e⟩ := x₃; exact Nat.lt_of_lt_of_le (Heap.lt_size e) hz4
  have Y₅ := plain_ext (plain_grow x₃ g₄) s₅.extBut (by omega)
  have Z₅ := plain_ext x₄ s₅.extBut (by omega)
  -- the loop
  have hl₅ := hl.grow F₅.keep
  have hla : la < h.objs.size := hl.lt
  refine rSeq (rForS [la] xs.length (fun i v => ∃ x t, xs[i]? = some x ∧ v = .str (T x) t) (rL F₅ rfl ?_))
  have src : Src S w (A.deeper (splE h.objs.size)) h₅ (.ref la) [la] xs.length (fun i v => ∃ x t, xs[i]? = some x ∧ v = .str (T x) t) := by
    obtain ⟨vs, x, y⟩ := hl₅
    have e : vs.length = xs.length := by rw [y.len_eq, List.length_map]
    have s := Src.list (S := S) (w := w) O.hd x
    rw [e] at s
    refine ⟨s.ok.mono fun it h₂ ⟨Stt, o, e1, e2, Wk, r⟩ => ⟨Stt, o, e1, e2, ⟨Wk.sub, Wk.frame, fun i s Q E hi hst hQ => Wk.item i s Q E hi hst fun v h' tk hP => hQ v h' tk ?_, Wk.done, Wk.self⟩, r⟩⟩
    obtain ⟨y1, t1, rfl, hy⟩ := y.item i v hP
    rw [List.getElem?_map] at hy
    cases hx : xs[i]? with
    | none => rw [hx] at hy; cases hy
    | some x1 => rw [hx] at hy; cases hy; exact ⟨x1, t1, rfl, rfl⟩
  refine ⟨src, fun i h' => ∃ vy vz, h'.PlainList ya vy.toArray ∧ h'.PlainList za vz.toArray ∧ vy.length ≤ i ∧ vz.length ≤ i ∧ StrsAre vy ((pick b xs i).map T) ∧ StrsAre vz ((pick (fun i => !b i) xs i).map T) ∧
    Lo h h.objs.size h' [("s", .ref la), ("predicate", .ref f), ("yes", .ref ya), ("no", .ref za)], [h.objs.size, ya, za], ?_, ?_, ⟨[], [], Y₅, Z₅, Nat.le_refl _, Nat.le_refl _, .nil, .nil, F₅⟩, ?_, ?_, ?_⟩
  · have h1 := F₅.lt
    have h2 : za < h₅.objs.size := by obtain ⟨n, e⟩ := Z₅; exact Heap.lt_size e
    intro b hb
    simp at hb
    rcases hb with rfl | rfl | rfl <;> omega
  · intro b hb hc
    simp at hb hc
    omega
  · rintro i h₆ h₇ ⟨vy, vz, y1, z1, l1, l2, sy, sz, F₆⟩ hx
    have h1 := F₅.lt
    have h2 : za < h₅.objs.size := by obtain ⟨n, e⟩ := Z₅; exact Heap.lt_size e
    exact ⟨vy, vz, plain_ext y1 hx (by omega), plain_ext z1 hx (by omega), l1, l2, sy, sz, F₆.ext hx h1⟩
  · rintro i v h₆ hi ⟨x, t, hx, rfl⟩ ⟨vy, vz, y1, z1, l1, l2, sy, sz, F₆⟩
    refine rS F₆ fun h₇ F₇ s₇ => ?_
    have y7 := plain_ext y1 s₇.extBut (by omega)
    have z7 := plain_ext z1 s₇.extBut (by omega)
    -- if predicate(x)
    refine rSeq (rIf (rTVal (rCallN (rL F₇ rfl (rCF (FnAt.grow K.1 F₇.keep) (rItC (rL F₇ rfl (rItN ⟨FnAt.grow K.1 F₇.keep, ?_⟩)))))) tvCall))
    refine K.2 _ _ h₇ i x t _ O F₇.keep hx fun h₈ v g₈ pv => ?_
    subst pv
    have F₈ := F₇.grow g₈
    have y8 := plain_grow y7 g₈
    have z8 := plain_grow z7 g₈
    have keep : ∀ {h₉ : Heap} {c : Nat}, Heap.SameBut c h₈ h₉ → (c = ya ∨ c = za) → ∀ b o, b ∉ [h.objs.size, ya, za] → h₆.get? b = some o → h₉.get? b = some o := fun {h₉ c} s hc b o hb e => by
      simp only [List.mem_cons, List.not_mem_nil, or_false, not_or] at hb
      have e7 := get_same e s₇ hb.1
      exact get_same (g₈ _ _ e7) s (by rcases hc with rfl | rfl; exact hb.2.1; exact hb.2.2)
    refine rTBool ⟨fun hb => ?_, fun hb => ?_⟩
    · refine rSeq (rExpr (rMeth abN (rL F₈ rfl (rGMapp y8 (rCM1 (rItC (rL F₈ rfl (rItN (rApp y8 (by omega) fun h₉ y9 s₉ => ?_)))))))))
      refine nx_next (rNil (nx_next (rNil ⟨⟨vy ++ [.str (T x) t], vz, y9, plain_ext z8 s₉.extBut (by omega), by simp; omega, by omega, ?_, ?_, (F₈.ext s₉.extBut (by omega)).take 4⟩, keep s₉ (.inl rfl)⟩)))
      · rw [pick_succ b hx, hb, if_pos rfl, List.map_append]; exact strsAre_snoc sy
      · rw [pick_succ _ hx, hb]; simpa using sz
    · refine rSeq (rExpr (rMeth abN (rL F₈ rfl (rGMapp z8 (rCM1 (rItC (rL F₈ rfl (rItN (rApp z8 (by omega) fun h₉ z9 s₉ => ?_)))))))))
      refine nx_next (rNil (nx_next (rNil ⟨⟨vy, vz ++ [.str (T x) t], plain_ext y8 s₉.extBut (by omega), z9, by omega, by simp; omega, ?_, ?_, (F₈.ext s₉.extBut (by omega)).take 4⟩, keep s₉ (.inr rfl)⟩)))
      · rw [pick_succ b hx, hb]; simpa using sy
      · rw [pick_succ _ hx, hb, if_pos (by rfl : (!false) = true), List.map_append]; exact strsAre_snoc sz
  · rintro h₆ ⟨vy, vz, y1, z1, l1, l2, sy, sz, F₆⟩
    refine rNil (nx_next (rSeq (rRet (rTuple (rItC (rL F₆ rfl (rItC (rL F₆ rfl (rItN ⟨by simp, fun h₇ t g₇ _ ht => nx_ret ?_⟩)))))))))
    exact q h₇ t ya za (F₆.keep.trans g₇) ht ⟨vy, (plain_grow y1 g₇).isList, sy⟩ ⟨vz, (plain_grow z1 g₇).isList, sz⟩
end
end Mine
open PySem PySem.W PyProof.Rows PySem.Calls
set_option Elab.async false
set_option maxRecDepth 100000
set_option maxHeartbeats 4000000
namespace Mine
/-- what is known of a frame's cells -/
def LC (L : Nat) (cs : List (Str × Nat)) (h : Heap) (c : List (Str × Value)) : Prop := ∃ cm, Cl L cs h cm ∧ ∀ p ∈ c, cm p.1 = some p.2
section
variable {S : Shared} {w : World} {A : Around} {h h' h₀ : Heap} {env : Env} {L : Nat} {m mg mb : Str → Option Value} {l l' c c' : List (Str × Value)} {cs : List (Str × Nat)}
theorem LC.grow (X : LC L cs h c) (g : Grow h h') : LC L cs h' c := let ⟨cm, X, e⟩ := X; ⟨cm, X.keeps g, e⟩
theorem LC.ext {b : Nat} (X : LC L cs h c) (g : Heap.ExtBut b h h') (hb : ∀ n a, (n, a) ∈ cs → a ≠ b) : LC L cs h' c :=
  let ⟨cm, X, e⟩ := X; ⟨cm, ⟨fun n a q => let ⟨o, ho, hd⟩ := X.cell n a q; ⟨o, g a o (hb n a (mem_of_lookup q)) ho, hd⟩, X.apart, X.above⟩, e⟩
theorem LC.get {x : Str} {v : Value} {a : Nat} (X : LC L cs h c) (hv : c.lookup x = some v) (ha : cs.lookup x = some a) : h.IsCell a (some v) := by
  obtain ⟨cm, X, e⟩ := X
  have := X.cell x a ha
  rw [e _ (mem_of_lookupS hv)] at this
  exact this
theorem LC.above (X : LC L cs h c) {x : Str} {a : Nat} (ha : cs.lookup x = some a) : L < a := let ⟨_, X, _⟩ := X; X.above x a (mem_of_lookup ha)
theorem rCell {x : Str} {pos : Pos} {a : Nat} {v : Value} {Q : Value → Heap → Prop} (hc : h.IsCell a (some v)) (q : Q v h) (ha : env.cells.lookup x = some a := by rfl)
    (hk : env.scope.kind = .function := by rfl) (hx : env.kindOf x = some .cell := by rfl) (hd : (x == ("__debug__" : Str)) = false := by decide) :
    W S w A (eval (.Name x pos) env) Q h := ⟨fun _ => wpAny_Name (wpAny_loadName_cell hk hx ha hc ⟨_, _, rfl, q⟩) hd⟩
theorem rFree {x : Str} {pos : Pos} {a : Nat} {v : Value} {Q : Value → Heap → Prop} (hc : h.IsCell a (some v)) (q : Q v h) (ha : env.cells.lookup x = some a := by rfl)
    (hk : env.scope.kind = .function := by rfl) (hx : env.kindOf x = some .free := by rfl) (hd : (x == ("__debug__" : Str)) = false := by decide) (hn : (x == ("__classdict__" : Str)) = false := by decide) :
    W S w A (eval (.Name x pos) env) Q h := ⟨fun _ => wpAny_Name (wpAny_loadName_free hk hx ha hc ⟨_, _, rfl, q⟩ hn) hd⟩
/-- the call of a def with cells -/
theorem rCallC {a : Nat} {fd : FuncData} {body : List Stmt} {args : List Value} {binds lb cb : List (Str × Value)} {Q : Value → Heap → Prop} {n : Nat}
    (G : Gl w mg mb h) (O : OkA n A) (ho : (KK w).lookup a = some { cls := .type "function", data := .func fd }) (hc : codeIn (KK w) fd.code fd.qualname = true)
    (hb : fd.body = .stmts body) (hbind : bindArgs fd ⟨args, []⟩ = Pure.pure binds) (hclo : fd.closure = [])
    (hkind : ∀ x ∈ binds, fd.scope.names.lookup x.1 = some .local ∨ (fd.scope.names.lookup x.1 = some .cell ∧ ((cellsFrom (h.objs.size + 1) fd.scope.names []).lookup x.1).isSome = true))
    (hl : ∀ p ∈ lb, bindL (callEnvC fd h.objs.size a).kindOf binds (fun _ => none) p.1 = some p.2) (hcl : ∀ p ∈ cb, bindC (callEnvC fd h.objs.size a).kindOf binds (fun _ => none) p.1 = some p.2)
    (q : ∀ h₁, Lo h h.objs.size h₁ lb → LC h.objs.size (cellsFrom (h.objs.size + 1) fd.scope.names []) h₁ cb →
      W S w (A.deeper (callEnvC fd h.objs.size a)) (execs body (callEnvC fd h.objs.size a)) (fun f h' => Q (match f with | .ret v => v | _ => .none) h') h₁)
    (hn : n ≤ 100 := by omega) (hco : fd.scope.isCoroutine = false := by rfl) (hgen : fd.scope.isGenerator = false := by rfl) (hk : fd.scope.kind = .function := by rfl) :
    W S w A (call (.ref a) args) Q h :=
  ⟨fun tk => wpAny_call (codeAny_call_cells (O.room hn) (G.k _ _ ho) rfl G.nl (codeRec_of G.k hc) hb hbind hclo hkind (fun s₁ X => by
    obtain ⟨h₁, tk, rfl, _⟩ := X.done
    refine (q h₁ ⟨_, ⟨X.toInCall.ns, X.toInCall.keep, X.toInCall.fresh⟩, hl⟩ ⟨_, ⟨X.cell, X.apart, X.above⟩, hcl⟩).run fun f h' tk' q' => ⟨_, _, rfl, q'⟩) hco hgen hk)⟩
end
end Mine
open PySem PySem.W PyProof.Rows PySem.Calls
set_option Elab.async false
set_option maxRecDepth 100000
set_option maxHeartbeats 4000000
namespace Mine
theorem paired_map {α β : Type} {V : α → Value → Prop} {F : Value → Value → Prop} {U : β → Value → Prop} {g : α → β} : ∀ {xs : List α} {vs ys : List Value}, (∀ x v y, x ∈ xs → V x v → F v y → U (g x) y) → vs.length = xs.length →
    (∀ (j : Nat) v, vs[j]? = some v → ∃ x, xs[j]? = some x ∧ V x v) → Paired F vs ys → Paired U (xs.map g) ys
  | [], vs, ys, _, hl, _, hp => by
    have : vs = [] := List.length_eq_zero_iff.mp hl
    subst this; cases hp; exact .nil
  | x :: xs, vs, ys, hF, hl, hV, hp => by
    cases hp with
    | nil => cases hl
    | @cons v y vs ys hvy hp =>
      obtain ⟨x', e, hx⟩ := hV 0 v rfl
      have : x' = x := by simpa using e.symm
      subst this
      exact .cons (hF x' v y (.head _) hx hvy) (paired_map (fun x v y hx => hF x v y (.tail _ hx)) (by simpa using hl) (fun j v hj => by simpa using hV (j + 1) v (by simpa using hj)) hp)
theorem strs_of_paired : ∀ {xs : List (List Nat)} {ys : List Value}, Paired (fun s y => ∃ t, y = Value.str (T s) t) xs ys → StrsAre ys (xs.map T)
  | _, _, .nil => .nil
  | _, _, .cons ⟨t, e⟩ r => by subst e; exact .cons _ t (strs_of_paired r)
theorem ints_of_paired : ∀ {xs : List Int} {ys : List Value}, Paired (fun s y => ∃ t, y = Value.int s t) xs ys → IntsAre ys xs
  | _, _, .nil => .nil
  | _, _, .cons ⟨t, e⟩ r => by subst e; exact .cons _ t (ints_of_paired r)
theorem filter_tt {α : Type} (l : List α) : l.filter (fun _ => true) = l := by simp
theorem join_flat : ∀ ps : List (List Nat), Str.join (T []) (ps.map T) = T ps.flatten
  | [] => rfl
  | [p] => by show T p = _; simp
  | p :: q :: r => by
    have ih := join_flat (q :: r)
    show T p ++ T [] ++ Str.join (T []) ((q :: r).map T) = _
    rw [ih, T_append, T_append]
    simp
theorem sum_le_one {f : Nat → List Nat} (hf : ∀ d, (f d).length ≤ 1) : ∀ x : List Nat, (((x.map f).map T).map (·.length)).sum ≤ x.length
  | [] => by simp
  | d :: x => by
    have h1 := sum_le_one hf x
    have h2 := hf d
    have h3 := T_length (f d)
    simp only [List.map_cons, List.sum_cons, List.length_cons]
    omega
theorem ofS_empty : Str.ofString "" = T [] := by decide +kernel
theorem idx_0 : Builtin.Str.occurrences (Str.ofString "abc") (T [97]) 0 (Str.ofString "abc").length 1 = [0] := by decide +kernel
theorem idx_1 : Builtin.Str.occurrences (Str.ofString "abc") (T [98]) 0 (Str.ofString "abc").length 1 = [1] := by decide +kernel
theorem idx_2 : Builtin.Str.occurrences (Str.ofString "abc") (T [99]) 0 (Str.ofString "abc").length 1 = [2] := by decide +kernel
section
variable {S : Shared} {w : World} {A : Around} {h h' h₀ : Heap} {env : Env} {L : Nat} {m mg mb : Str → Option Value} {l l' c c' : List (Str × Value)} {cs : List (Str × Nat)}
theorem rIfE {test body orelse : Expr} {pos : Pos} {Q : Value → Heap → Prop}
    (q : W S w A (PySem.isTrue test env (eval test env)) (fun b h₁ => (b = true → W S w A (eval body env) Q h₁) ∧ (b = false → W S w A (eval orelse env) Q h₁)) h) : W S w A (eval (.IfExp test body orelse pos) env) Q h :=
  ⟨fun _ => wpAny_IfExp (q.run fun b h₁ tk q₁ => by cases b; exact (q₁.2 rfl).ok _; exact (q₁.1 rfl).ok _)⟩
theorem rIn {x : List Nat} {d : Nat} {t u : Tok} {Q : Value → Heap → Prop} (q : Q (.bool (decide (d ∈ x))) h) : W S w A (compareOp .In (.str (T [d]) u) (.str (T x) t)) Q h :=
  ⟨fun _ => P.in_str ⟨_, _, rfl, by
    have := StrLaws.found_one (T x) d
    rw [this]; simpa using q⟩⟩
theorem rIdx {d : Nat} {t u : Tok} {Q : Value → Heap → Prop} (hd : d = 97 ∨ d = 98 ∨ d = 99) (q : ∀ tk, Q (.int ((d - 97 : Nat) : Int) tk) h) : W S w A (call (.builtin "str.index") [.str (Str.ofString "abc") t, .str (T [d]) u]) Q h := by
  rcases hd with rfl | rfl | rfl
  · exact ⟨fun _ => SC.index idx_0 ⟨_, _, rfl, q _⟩⟩
  · exact ⟨fun _ => SC.index idx_1 ⟨_, _, rfl, q _⟩⟩
  · exact ⟨fun _ => SC.index idx_2 ⟨_, _, rfl, q _⟩⟩
def wrdFd : FuncData := fdOf "_law_word" 13 .none .none (.str "law_pk0081_01" 274) 64
theorem look_wrd (w : World) : (KK w).lookup 65 = some { cls := .type "function", data := .func wrdFd } := by kernel_rfl
abbrev wrdE (L : Nat) : Env := callEnvC wrdFd L 65
/-- the sign c of the text, where the signs gone have given way -/
def wd (nw : List (List Nat)) (gone : List Nat) (d : Nat) : List Nat := if d ∈ gone then nw.getD (d - 97) [] else [d]
theorem mem_forall_cons {α : Type} {p : α → Prop} {a : α} {l : List α} (h : p a) (r : ∀ x ∈ l, p x) : ∀ x ∈ a :: l, p x := List.forall_mem_cons.mpr ⟨h, r⟩
theorem word_call {n : Nat} {text gone : List Nat} {nw : List (List Nat)} {la : Nat} {t tg : Tok} {Q : Value → Heap → Prop} (G : Gl w mg mb h) (O : OkA n A) (hn : n ≤ 50) (hx : text.length ≤ 100) (hg : ∀ d ∈ gone, d = 97 ∨ d = 98 ∨ d = 99)
    (hl : SL h la nw) (h3 : nw.length = 3) (h1 : ∀ z ∈ nw, z.length ≤ 1) (q : ∀ h' tk, Grow h h' → Q (.str (T (text.flatMap (wd nw gone))) tk) h') : W S w A (call (.ref 65) [.str (T text) t, .str (T gone) tg, .ref la]) Q h := by
  refine rCallC (binds := [("text", .str (T text) t), ("gone", .str (T gone) tg), ("new", .ref la)]) (lb := [("text", .str (T text) t)]) (cb := [("gone", .str (T gone) tg), ("new", .ref la)]) G O (look_wrd w) (by kernel_rfl) rfl rfl rfl
    (mem_forall_cons (.inl rfl) (mem_forall_cons (.inr ⟨rfl, rfl⟩) (mem_forall_cons (.inr ⟨rfl, rfl⟩) nofun))) (mem_forall_cons rfl nofun) (mem_forall_cons rfl (mem_forall_cons rfl nofun)) fun h₁ F X => ?_
  have O := O.deeper (env := wrdE h.objs.size)
  refine rSeq (rRet (rMeth abC (rStr fun _ => rGMjoin (rCM1 (rItC ?_)))))
  have cg : h₁.IsCell (h.objs.size + 1) (some (.str (T gone) tg)) := X.get (x := "gone") rfl rfl
  have cn : h₁.IsCell (h.objs.size + 1 + 1) (some (.ref la)) := X.get (x := "new") rfl rfl
  have hl₁ := hl.grow F.keep
  refine rLC text.length (fun i v => ∃ d u, text[i]? = some d ∧ v = .str (T [d]) u) (fun _ => true) (fun v y => ∃ d u u', v = .str (T [d]) u ∧ y = .str (T (wd nw gone d)) u') rfl (rL F rfl ⟨⟨_, Src.str O.hd⟩, by omega, fun S' C i v h₃ F₃ hv => rT0 ⟨rfl, Grow.refl _⟩, ?_, ?_⟩)
  · rintro S' C i v h₃ F₃ ⟨d, u, hd, rfl⟩ _
    refine rIfE (rTCmp (rL F₃ rfl (rCell (F₃.keep.cell cg) (rIn (rTBool ⟨fun hb => ?_, fun hb => ?_⟩)))))
    · rw [decide_eq_true_eq] at hb
      refine rSub (rCell (F₃.keep.cell cn) (rMeth abC (rStr fun _ => rGMindex (rCM1 (rItC (rL F₃ rfl (rItN (rIdx (hg d hb) fun _ => ?_))))))))
      have e : nw[d - 97]? = some (nw.getD (d - 97) []) := by
        have : d - 97 < nw.length := by have := hg d hb; omega
        simp [List.getD, List.getElem?_eq_getElem this]
      refine rGetSL (hl₁.grow F₃.keep) (by have := hg d hb; omega) e (fun u' => ⟨⟨d, u, u', rfl, ?_⟩, Grow.refl _⟩) sbCall
      unfold wd; rw [if_pos hb]
    · rw [decide_eq_false_iff_not] at hb
      refine rL F₃ rfl ⟨⟨d, u, u, rfl, ?_⟩, Grow.refl _⟩
      unfold wd; rw [if_neg hb]
  · intro D h' ys vs g hD hlen hP hF
    rw [filter_tt] at hF
    have hp := paired_map (xs := text) (V := fun d v => ∃ u, v = Value.str (T [d]) u) (U := fun s y => ∃ t, y = Value.str (T s) t) (g := wd nw gone) (fun x v y _ ⟨u, e⟩ ⟨d, u1, u2, e1, e2⟩ => by
      rw [e] at e1
      injection e1 with e1 _
      have : x = d := by simpa using T_inj.mp e1
      subst this; exact ⟨u2, e2⟩) hlen (fun j v hj => let ⟨d, u, a, b⟩ := hP j v hj; ⟨d, a, u, b⟩) hF
    have hs := strs_of_paired hp
    obtain ⟨lv, rfl, elv⟩ := strsAre_values hs
    refine rItN (rJoin hD elv (joinOk ?_) fun tk => nx_ret ?_)
    · have hw : ∀ d, (wd nw gone d).length ≤ 1 := fun d => by
        unfold wd
        split
        · rw [List.getD_eq_getElem?_getD]
          cases e : nw[d - 97]? with
          | none => simp
          | some z => exact h1 z (List.mem_of_getElem? e)
        · simp
      have := sum_le_one hw text
      rw [ofS_empty, T_length, List.length_nil, Nat.mul_zero]
      omega
    · rw [ofS_empty, join_flat, ← List.flatMap_def]
      exact q h' tk (F.keep.trans g)
end
end Mine
open PySem PySem.W PyProof.Rows PySem.Calls
set_option Elab.async false
set_option maxRecDepth 100000
set_option maxHeartbeats 4000000
namespace Mine
theorem put_ok {m : Str → Option Value} {x : Str} {v : Value} {l : List (Str × Value)} (e : ∀ p ∈ l, m p.1 = some p.2) : ∀ p ∈ put x v l, (if p.1 = x then some v else m p.1) = some p.2 := by
  intro p hp
  unfold put at hp
  by_cases hp1 : p.1 = x
  · rw [if_pos hp1]
    split at hp
    · obtain ⟨p0, _, e0⟩ := List.mem_map.mp hp
      by_cases hb : p0.1 == x
      · rw [if_pos hb] at e0; rw [← e0]
      · rw [if_neg hb] at e0; rw [e0] at hb; exact absurd (beq_iff_eq.mpr hp1) hb
    · rename_i ha
      rcases List.mem_append.mp hp with h1 | h1
      · exact absurd (List.any_eq_true (p := fun p : Str × Value => p.1 == x).mpr ⟨p, h1, beq_iff_eq.mpr hp1⟩) ha
      · rw [List.mem_singleton.mp h1]
  · rw [if_neg hp1]
    split at hp
    · obtain ⟨p0, h0, e0⟩ := List.mem_map.mp hp
      by_cases hb : p0.1 == x
      · rw [if_pos hb] at e0; rw [← e0] at hp1; exact absurd rfl hp1
      · rw [if_neg hb] at e0; rw [← e0]; exact e _ h0
    · rcases List.mem_append.mp hp with h1 | h1
      · exact e _ h1
      · rw [List.mem_singleton.mp h1] at hp1; exact absurd rfl hp1
/-- lists and tuples stay -/
def LP (h h' : Heap) : Prop := ∀ b o xs n, h.get? b = some o → o.data = .seq xs n → h'.get? b = some o
theorem LP.of_grow {h h' : Heap} (g : Grow h h') : LP h h' := fun b o _ _ e _ => g b o e
theorem LP.trans {a b c : Heap} (x : LP a b) (y : LP b c) : LP a c := fun p o xs n e d => y p o xs n (x p o xs n e d) d
theorem LP.of_same {h h' : Heap} {a : Nat} {oa : Obj} (s : Heap.SameBut a h h') (e : h.get? a = some oa) (hd : ∀ xs n, oa.data ≠ .seq xs n) : LP h h' := fun b o xs n q d =>
  get_same q s (fun r => by subst r; rw [e] at q; cases q; exact hd _ _ d)
theorem LP.lst {h h' : Heap} {a : Nat} {xs : Array Value} (p : LP h h') (x : h.IsList a xs) : h'.IsList a xs := let ⟨o, e, c, n, d⟩ := x; ⟨o, p _ _ _ _ e d, c, n, d⟩
theorem LP.plain {h h' : Heap} {a : Nat} {xs : Array Value} (p : LP h h') (x : h.PlainList a xs) : h'.PlainList a xs := let ⟨n, e⟩ := x; ⟨n, p _ _ _ _ e rfl⟩
theorem IL.lp {h h' : Heap} {a : Nat} {ns : List Int} (x : IL h a ns) (p : LP h h') : IL h' a ns := let ⟨vs, x, y⟩ := x; ⟨vs, p.lst x, y⟩
theorem SL.lp {h h' : Heap} {a : Nat} {ns : List (List Nat)} (x : SL h a ns) (p : LP h h') : SL h' a ns := let ⟨vs, x, y⟩ := x; ⟨vs, p.lst x, y⟩
/-- plain lists of ints | of texts -/
def PI (h : Heap) (a : Nat) (ns : List Int) : Prop := ∃ vs, h.PlainList a vs.toArray ∧ IntsAre vs ns
def PS (h : Heap) (a : Nat) (ns : List (List Nat)) : Prop := ∃ vs, h.PlainList a vs.toArray ∧ StrsAre vs (ns.map T)
theorem PI.il {h : Heap} {a : Nat} {ns : List Int} (x : PI h a ns) : IL h a ns := let ⟨vs, x, y⟩ := x; ⟨vs, x.isList, y⟩
theorem PS.sl {h : Heap} {a : Nat} {ns : List (List Nat)} (x : PS h a ns) : SL h a ns := let ⟨vs, x, y⟩ := x; ⟨vs, x.isList, y⟩
theorem PI.lp {h h' : Heap} {a : Nat} {ns : List Int} (x : PI h a ns) (p : LP h h') : PI h' a ns := let ⟨vs, x, y⟩ := x; ⟨vs, p.plain x, y⟩
theorem PS.lp {h h' : Heap} {a : Nat} {ns : List (List Nat)} (x : PS h a ns) (p : LP h h') : PS h' a ns := let ⟨vs, x, y⟩ := x; ⟨vs, p.plain x, y⟩
def lawFd : FuncData := fdOf "law" 14 .none .none (.str "law_pk0081_01" 274) 69
theorem look_law (w : World) : (KK w).lookup 70 = some { cls := .type "function", data := .func lawFd } := by kernel_rfl
abbrev lawE (L : Nat) : Env := callEnvC lawFd L 70
abbrev lawCs (L : Nat) : List (Str × Nat) := cellsFrom (L + 1) lawFd.scope.names []
def lawS (i : Nat) : Stmt := (bodyOf (stm 14)).getD i (.Pass default)
/-- the law's state: locals l, cells c, the code's table ps -/
structure LS (h₀ : Heap) (L : Nat) (h : Heap) (l c : List (Str × Value)) (ps : Array Value) : Prop where
  lo : Lo h₀ L h l
  lc : LC L (lawCs L) h c
  tb : h.get? 67 = some (tabObj ps)
  hL : 67 < L
section
variable {S : Shared} {w : World} {A : Around} {h h' h₀ : Heap} {env : Env} {L : Nat} {m mg mb : Str → Option Value} {l l' c c' : List (Str × Value)} {cs : List (Str × Nat)} {ps : Array Value}
theorem LS.grow (X : LS h₀ L h l c ps) (g : Grow h h') : LS h₀ L h' l c ps := ⟨X.lo.grow g, X.lc.grow g, g _ _ X.tb, X.hL⟩
theorem LS.gl (X : LS h₀ L h l c ps) (G : Gl w mg mb h₀) : Gl w mg mb h := G.grow X.lo.keep
theorem LS.subl (X : LS h₀ L h l c ps) (s : ∀ p ∈ l', p ∈ l) : LS h₀ L h l' c ps := ⟨X.lo.sub s, X.lc, X.tb, X.hL⟩
theorem rSL {x : Str} {v : Value} {Q : Unit → Heap → Prop} (X : LS h₀ L h l c ps) (q : ∀ h', LS h₀ L h' (put x v l) c ps → LP h h' → Q () h')
    (hx : (lawE L).kindOf x = some .local := by rfl) : W S w A (storeName (lawE L) x v) Q h := by
  obtain ⟨m, F, _⟩ := id X.lo
  obtain ⟨oL, es, ep, eL, dL, _⟩ := F.ns
  refine rS X.lo (fun h' F' s => q h' ⟨F', ?_, get_same X.tb s (by have := X.hL; omega), X.hL⟩ (LP.of_same s eL (fun xs n e => by rw [dL] at e; cases e))) rfl rfl hx
  obtain ⟨cm, Y, e⟩ := X.lc
  exact ⟨cm, Y.sameBut s (Nat.le_refl _), e⟩
theorem rSC {x : Str} {a : Nat} {v : Value} {Q : Unit → Heap → Prop} (X : LS h₀ L h l c ps) (q : ∀ h', LS h₀ L h' l (put x v c) ps → LP h h' → Q () h')
    (ha : (lawCs L).lookup x = some a := by rfl) (hx : (lawE L).kindOf x = some .cell := by rfl) : W S w A (storeName (lawE L) x v) Q h := by
  obtain ⟨cm, Y, e⟩ := X.lc
  have hLa : L < a := Y.above x a (mem_of_lookup ha)
  refine ⟨fun _ => wpAny_storeName_cell rfl hx ha (Y.cell x a ha) fun h' hv s => ⟨_, _, rfl, q h' ⟨X.lo.ext s.extBut hLa, ⟨fun y => if y = x then some v else cm y, ⟨fun n b eb => ?_, Y.apart, Y.above⟩, put_ok e⟩, get_same X.tb s (by have := X.hL; omega), X.hL⟩ ?_⟩⟩
  · by_cases hn : n = x
    · subst hn; rw [ha] at eb; cases eb; simpa using hv
    · have hcc : b ≠ a := fun q => hn (name_of_addr Y.apart (mem_of_lookup eb) (q ▸ mem_of_lookup ha))
      simpa [hn] using (Y.cell n b eb).sameBut s hcc
  · obtain ⟨o, eo, d⟩ := Y.cell x a ha
    exact LP.of_same s eo (fun xs n e => by rw [d] at e; cases e)
theorem rLl {x : Str} {pos : Pos} {v : Value} {Q : Value → Heap → Prop} (X : LS h₀ L h l c ps) (hv : l.lookup x = some v) (q : Q v h) (hx : (lawE L).kindOf x = some .local := by rfl) (hd : (x == ("__debug__" : Str)) = false := by decide) :
    W S w A (eval (.Name x pos) (lawE L)) Q h := rL X.lo hv q rfl rfl hx hd
theorem rLc {x : Str} {a : Nat} {pos : Pos} {v : Value} {Q : Value → Heap → Prop} (X : LS h₀ L h l c ps) (hv : c.lookup x = some v) (q : Q v h) (ha : (lawCs L).lookup x = some a := by rfl) (hx : (lawE L).kindOf x = some .cell := by rfl) (hd : (x == ("__debug__" : Str)) = false := by decide) :
    W S w A (eval (.Name x pos) (lawE L)) Q h := rCell (X.lc.get hv ha) q ha rfl hx hd
-- lists
theorem rAddP {a b : Nat} {vs ws : List Value} {Q : Value → Heap → Prop} (x : h.PlainList a vs.toArray) (y : h.PlainList b ws.toArray) (hz : vs.length + ws.length ≤ 1000) (q : ∀ h' c, Grow h h' → h'.PlainList c (vs ++ ws).toArray → Q (.ref c) h') :
    W S w A (binaryOp .Add (.ref a) (.ref b)) Q h := by
  obtain ⟨n, x⟩ := x
  obtain ⟨k, y⟩ := y
  exact ⟨fun _ => P.add_list x y ⟨_, _, rfl, q _ _ (Grow.push _ _) ⟨0, by
    show (h.push _).get? h.objs.size = _
    rw [Heap.get?_push_size _ rfl]; simp⟩⟩ (by simp; exact Nat.le_trans hz (by decide))⟩
theorem rListC {a : Nat} {vs : List Value} {Q : Value → Heap → Prop} (x : h.IsList a vs.toArray) (hz : vs.length ≤ 1000) (q : ∀ h' c, Grow h h' → h'.PlainList c vs.toArray → Q (.ref c) h') : W S w A (call (.type "list") [.ref a]) Q h := by
  obtain ⟨o, e, c, n, d⟩ := x
  exact ⟨fun _ => call_list_seq a (.inl rfl) e c d (fun h' c' g e' => ⟨_, _, rfl, q h' _ g ⟨c', e'⟩⟩) (by simp; exact Nat.le_trans hz (by decide))⟩
theorem rSlL {value : Expr} {lower upper : Option Expr} {p pos : Pos} {Q : Value → Heap → Prop}
    (q : W S w A (eval value env) (fun o h₁ => W S w A (evalPart lower env) (fun vl h₂ => W S w A (evalPart upper env) (fun vu h₃ => ∃ (a : Nat) (vs : List Value) (lo hi : Option Int), o = .ref a ∧ h₃.IsList a vs.toArray ∧ vs.length ≤ 1000 ∧ IsPart vl lo ∧ IsPart vu hi ∧
      ∀ b h', Grow h₃ h' → h'.PlainList b (slicePick vs.toArray lo hi none) → Q (.ref b) h') h₂) h₁) h) :
    W S w A (eval (.Subscript value (.Slice lower upper none p) pos) env) Q h := ⟨fun _ => by
  refine Subscript_ (q.run fun o h₁ tk₁ q₁ => wpAny_Slice (q₁.run fun vl h₂ tk₂ q₂ => q₂.run fun vu h₃ tk₃ q₃ => ?_))
  obtain ⟨a, vs, lo, hi, rfl, x, hz, pl, pu, q⟩ := q₃
  rw [evalPart_none]
  refine wpAny_pure ?_
  have x' : (h₃.push { cls := .type "slice", data := .fields #[vl, vu, .none] }).IsList a vs.toArray := Grow.lst (Grow.push _ _) x
  refine tail_any (T := "list") (id := "list.__getitem__") x'.typeIs slot_list_getitem.lookup (wpAny_getItem_list_slice x' (Heap.IsSliceOf.new ..) pl pu .none (by simp) ⟨_, _, rfl, q _ _ ((Grow.push _ _).trans (Grow.push _ _)) ⟨0, Heap.get?_push_size _ rfl⟩⟩ (by simp; exact Nat.le_trans hz (by decide))) rfl⟩
theorem rSumAny {a : Nat} {vs : List Value} {ns : List Int} {Q : Value → Heap → Prop} (hh : A.handled = none) (x : h.IsList a vs.toArray) (y : IntsAre vs ns) (q : ∀ h' z tk, Grow h h' → Q (.int z tk) h') : W S w A (call (.builtin "sum") [.ref a]) Q h :=
  ⟨fun _ => call_sum_walkG ((Src.list (S := S) (w := w) (A := A.in1) (h := h) hh x).ok.run fun it h₂ tk₂ q₂ => by
    obtain ⟨Stt, o, rfl, rfl, Wk, st0, hfp⟩ := q₂
    refine ⟨_, _, _, _, _, Stt, fun i => ns.getD i 0, rfl, Wk, st0, hfp, fun i v e => y.int_at i v e, fun h' tk t' hk => ⟨_, _, rfl, q h' _ t' (grow_off hk)⟩⟩)⟩
end
end Mine
open PySem PySem.W PyProof.Rows PySem.Calls
set_option Elab.async false
set_option maxRecDepth 100000
set_option maxHeartbeats 4000000
namespace Mine
section
variable {S : Shared} {w : World} {A : Around} {h h' h₀ : Heap} {env : Env} {L : Nat} {m mg mb : Str → Option Value} {l l' c c' : List (Str × Value)} {cs : List (Str × Nat)} {ps : Array Value}
theorem pick_upto (vs : List Value) (k : Nat) : slicePick vs.toArray none (some (k : Int)) none = (vs.take k).toArray := by
  rw [slicePick_upto']
theorem law_s0 {n ls : Nat} {ns : List Int} {Q : Flow → Heap → Prop} (G : Gl w mg mb h₀) (O : OkA n A) (X : LS h₀ L h [("script", .ref ls)] c ps) (hs : IL h ls ns) (hl : ns.length ≤ 63)
    (q : ∀ h' a nums, LS h₀ L h' [("script", .ref ls), ("numbers", .ref a)] c ps → LP h h' → PI h' a nums → nums.length = 6 → Q .next h') : W S w A (exec (lawS 0) (lawE L)) Q h := by
  have G₀ := X.gl G
  obtain ⟨vs, xs, ys⟩ := id hs
  have hvl : vs.length = ns.length := intsAre_len ys
  refine rAsgN (rSlL (rBin ?_))
  refine rCallN (rBlt G₀ G.fr.2.2.1 (by decide +kernel : bootBuiltins "list" = some (.type "list")) (rCT (rItC (rSlL (rLl X rfl (rPN (rPS (rInt fun tk => ⟨ls, vs, none, some 6, rfl, xs, by omega, .none, .int _ _, fun b h₁ g₁ x₁ => rItN ?_⟩))))))))
  rw [show (some (6 : Int)) = some ((6 : Nat) : Int) from rfl, pick_upto] at x₁
  refine rListC x₁.isList (by simp; omega) fun h₂ b₂ g₂ x₂ => ?_
  refine rListP (rItC (rInt fun t1 => rItC (rInt fun t2 => rItC (rInt fun t3 => rItC (rInt fun t4 => rItC (rInt fun t5 => rItC (rInt fun t6 => rItN ⟨by simp, fun h₃ b₃ g₃ _ x₃ => ?_⟩)))))))
  refine rAddP (plain_grow x₂ g₃) x₃ (by simp; omega) fun h₄ b₄ g₄ x₄ => ?_
  refine rPN (rPS (rInt fun tk => ⟨b₄, _, none, some 6, rfl, x₄.isList, by simp; omega, .none, .int _ _, fun b₅ h₅ g₅ x₅ => ?_⟩))
  rw [show (some (6 : Int)) = some ((6 : Nat) : Int) from rfl, pick_upto] at x₅
  have gg := g₁.trans (g₂.trans (g₃.trans (g₄.trans g₅)))
  refine rSL (X.grow gg) fun h₆ X₆ p₆ => ?_
  have I : IntsAre ((vs.take 6 ++ [Value.int 1 t1, .int 12 t2, .int 8 t3, .int 1 t4, .int 4 t5, .int 2 t6]).take 6) ((ns.take 6 ++ [1, 12, 8, 1, 4, 2]).take 6) :=
    IntsAre.take (IntsAre.append (IntsAre.take ys 6) (.cons _ _ (.cons _ _ (.cons _ _ (.cons _ _ (.cons _ _ (.cons _ _ .nil))))))) 6
  exact q h₆ b₅ _ X₆ ((LP.of_grow gg).trans p₆) ⟨_, p₆.plain x₅, I⟩ (by simp)
theorem law_s1 {n ls a : Nat} {ns : List Int} {Q : Flow → Heap → Prop} (G : Gl w mg mb h₀) (O : OkA n A) (X : LS h₀ L h [("script", .ref ls), ("numbers", .ref a)] c ps) (hs : IL h ls ns) (hl : ns.length ≤ 63)
    (q : ∀ h' z tk, LS h₀ L h' [("script", .ref ls), ("numbers", .ref a), ("total", .int z tk)] c ps → LP h h' → Q .next h') : W S w A (exec (lawS 1) (lawE L)) Q h := by
  have G₀ := X.gl G
  obtain ⟨vs, xs, ys⟩ := id hs
  have hvl : vs.length = ns.length := intsAre_len ys
  refine rAsgN (rCallN (rBlt G₀ G.fr.2.2.2.1 (by decide +kernel : bootBuiltins "sum" = some (.builtin "sum")) (rCB (rItC (rSlL (rLl X rfl (rPN (rPS (rInt fun tk => ⟨ls, vs, none, some 63, rfl, xs, by omega, .none, .int _ _, fun b h₁ g₁ x₁ => rItN ?_⟩)))))))))
  rw [show (some (63 : Int)) = some ((63 : Nat) : Int) from rfl, pick_upto] at x₁
  refine rSumAny O.hd x₁.isList (IntsAre.take ys 63) fun h₂ z tk g₂ => rSL (X.grow (g₁.trans g₂)) fun h₃ X₃ p₃ => ?_
  exact q h₃ z tk X₃ ((LP.of_grow (g₁.trans g₂)).trans p₃)
end
end Mine
open PySem PySem.W PyProof.Rows PySem.Calls
set_option Elab.async false
set_option maxRecDepth 100000
set_option maxHeartbeats 4000000
namespace Mine
theorem ofS_a : Str.ofString "a" = T [97] := by decide +kernel
theorem ofS_b : Str.ofString "b" = T [98] := by decide +kernel
theorem ofS_c : Str.ofString "c" = T [99] := by decide +kernel
theorem ofS_dot : Str.ofString "." = T [46] := by decide +kernel
theorem ofS_ABC : Str.ofString "ABC" = T [65, 66, 67] := by decide +kernel
theorem ofS_123 : Str.ofString "123" = T [49, 50, 51] := by decide +kernel
theorem ofS_abc : Str.ofString "abc" = T [97, 98, 99] := by decide +kernel
theorem ofS_acb : Str.ofString "acb" = T [97, 99, 98] := by decide +kernel
theorem ofS_bac : Str.ofString "bac" = T [98, 97, 99] := by decide +kernel
theorem ofS_bca : Str.ofString "bca" = T [98, 99, 97] := by decide +kernel
theorem ofS_cab : Str.ofString "cab" = T [99, 97, 98] := by decide +kernel
theorem ofS_cba : Str.ofString "cba" = T [99, 98, 97] := by decide +kernel
theorem ofS_bang : Str.ofString "!" = T [33] := by decide +kernel
theorem ofS_quest : Str.ofString "?" = T [63] := by decide +kernel
/-- the signs of a text -/
def Tx (x : List Nat) : Prop := (∀ d ∈ x, d = 97 ∨ d = 98 ∨ d = 99 ∨ d = 46) ∧ x.length ≤ 7
def tx (k : Int) : List Nat := [[], [97], [98], [99], [46]].getD (k.fmod 5).toNat []
def perms : List (List Nat) := [[97, 98, 99], [97, 99, 98], [98, 97, 99], [98, 99, 97], [99, 97, 98], [99, 98, 97]]
section
variable {S : Shared} {w : World} {A : Around} {h h' h₀ : Heap} {env : Env} {L : Nat} {m mg mb : Str → Option Value} {l l' c c' : List (Str × Value)} {cs : List (Str × Nat)} {ps : Array Value}
theorem rAddS {x y : List Nat} {t u : Tok} {Q : Value → Heap → Prop} (hz : x.length + y.length ≤ 1000) (q : ∀ tk, Q (.str (T (x ++ y)) tk) h) : W S w A (binaryOp .Add (.str (T x) t) (.str (T y) u)) Q h := by
  have hs : sizeLine = 16777216 := by decide
  have e : T x ++ T y = T (x ++ y) := T_append x y
  exact ⟨fun _ => PyProof.Rows.add_str (fun t' k => ⟨_, _, rfl, by rw [e]; exact q t'⟩) (by rw [T_length, T_length]; omega)⟩
theorem fm5 (k : Int) : k.fmod 5 = 0 ∨ k.fmod 5 = 1 ∨ k.fmod 5 = 2 ∨ k.fmod 5 = 3 ∨ k.fmod 5 = 4 := by
  have := Int.fmod_eq_emod_of_nonneg k (show (0 : Int) ≤ 5 by decide)
  omega
theorem fm6 (k : Int) : k.fmod 6 = 0 ∨ k.fmod 6 = 1 ∨ k.fmod 6 = 2 ∨ k.fmod 6 = 3 ∨ k.fmod 6 = 4 ∨ k.fmod 6 = 5 := by
  have := Int.fmod_eq_emod_of_nonneg k (show (0 : Int) ≤ 6 by decide)
  omega
theorem law_s2 {n a : Nat} {nums : List Int} {Q : Flow → Heap → Prop} (O : OkA n A) (X : LS h₀ L h l c ps) (hl : l.lookup (Str.ofString "numbers") = some (.ref a)) (hn : PI h a nums) (h6 : nums.length = 6)
    (q : ∀ h' x tk, LS h₀ L h' l (put "text" (.str (T x) tk) c) ps → LP h h' → Tx x → Q .next h') : W S w A (exec (lawS 2) (lawE L)) Q h := by
  obtain ⟨vs, xs, ys⟩ := hn
  have hvl : vs.length = nums.length := intsAre_len ys
  refine rAsgN (rBin (rStr fun t0 => rMeth abC (rStr fun t1 => rGMjoin (rCM1 (rItC ?_)))))
  refine rLC vs.length (fun i v => vs[i]? = some v) (fun _ => true) (fun v y => ∃ k u u', v = .int k u ∧ y = .str (T (tx k)) u') rfl (rLl X hl ⟨⟨_, Src.list O.hd xs.isList⟩, by omega, fun S' C i v h₃ F₃ hv => rT0 ⟨rfl, Grow.refl _⟩, ?_, ?_⟩)
  · rintro S' C i v h₃ F₃ hv _
    obtain ⟨k, u, rfl, _⟩ := ys.at i v hv
    refine rSub (rList (rItC (rStr fun t1 => rItC (rStr fun t2 => rItC (rStr fun t3 => rItC (rStr fun t4 => rItC (rStr fun t5 => rItN ⟨by simp, fun h₄ b g₄ _ x₄ => ?_⟩)))))))
    refine rBin (rL (F₃.grow g₄) rfl (rInt fun _ => rMod (by decide) fun _ => ?_))
    have go : ∀ (s : Str) (z : List Nat) (tk : Tok), s = T z → tx k = z → (∃ k' u' u'', Value.int k u = .int k' u' ∧ Value.str s tk = .str (T (tx k')) u'') ∧ Grow h₃ h₄ := fun s z tk e1 e2 => ⟨⟨k, u, tk, rfl, by rw [e1, e2]⟩, g₄⟩
    rcases fm5 k with e | e | e | e | e
    · rw [e]; exact rGetL x₄ (by decide) (by decide) rfl (go _ _ _ ofS_empty (by unfold tx; rw [e]; rfl)) sbBin
    · rw [e]; exact rGetL x₄ (by decide) (by decide) rfl (go _ _ _ ofS_a (by unfold tx; rw [e]; rfl)) sbBin
    · rw [e]; exact rGetL x₄ (by decide) (by decide) rfl (go _ _ _ ofS_b (by unfold tx; rw [e]; rfl)) sbBin
    · rw [e]; exact rGetL x₄ (by decide) (by decide) rfl (go _ _ _ ofS_c (by unfold tx; rw [e]; rfl)) sbBin
    · rw [e]; exact rGetL x₄ (by decide) (by decide) rfl (go _ _ _ ofS_dot (by unfold tx; rw [e]; rfl)) sbBin
  · intro D h' zs us g hD hlen hP hF
    rw [filter_tt] at hF
    have hp := paired_map (xs := nums) (V := fun d v => ∃ u, v = Value.int d u) (U := fun s y => ∃ t, y = Value.str (T s) t) (g := tx) (fun x v y _ ⟨u, e⟩ ⟨d, u1, u2, e1, e2⟩ => by
      rw [e] at e1
      injection e1 with e1 _
      subst e1; exact ⟨u2, e2⟩) (by omega) (fun j v hj => let ⟨k, t, a, b⟩ := ys.at j v (hP j v hj); ⟨k, b, t, a⟩) hF
    have hs := strs_of_paired hp
    obtain ⟨lv, rfl, elv⟩ := strsAre_values hs
    have hw : ∀ d, (tx d).length ≤ 1 := fun d => by unfold tx; rcases fm5 d with e | e | e | e | e <;> rw [e] <;> decide
    have hsum : ∀ zs : List Int, (((zs.map tx).map T).map (·.length)).sum ≤ zs.length := fun zs => by
      induction zs with
      | nil => simp
      | cons d zs ih =>
        have h2 := hw d
        have h3 := T_length (tx d)
        simp only [List.map_cons, List.sum_cons, List.length_cons]
        omega
    have hfl : ∀ zs : List Int, (zs.map tx).flatten.length ≤ zs.length := fun zs => by
      induction zs with
      | nil => simp
      | cons d zs ih =>
        have h2 := hw d
        simp only [List.map_cons, List.flatten_cons, List.length_append, List.length_cons]
        omega
    refine rItN (rJoin hD elv (joinOk ?_) fun tk => ?_)
    · have := hsum nums
      rw [ofS_empty, T_length, List.length_nil, Nat.mul_zero]
      omega
    · rw [ofS_empty, join_flat, ofS_a]
      refine rAddS (by have := hfl nums; rw [List.length_singleton]; omega) fun tk => ?_
      refine rSC (X.grow g) fun h₅ X₅ p₅ => q h₅ _ tk X₅ ((LP.of_grow g).trans p₅) ⟨fun d hd => ?_, by have := hfl nums; rw [List.length_append, List.length_singleton]; omega⟩
      rw [List.singleton_append] at hd
      rcases List.mem_cons.mp hd with rfl | hd
      · exact .inl rfl
      · obtain ⟨z, hz, hdz⟩ := List.mem_flatten.mp hd
        obtain ⟨k, _, rfl⟩ := List.mem_map.mp hz
        unfold tx at hdz
        rcases fm5 k with e | e | e | e | e <;> rw [e] at hdz <;> simp at hdz <;> omega
end
end Mine
open PySem PySem.W PyProof.Rows PySem.Calls
set_option Elab.async false
set_option maxRecDepth 100000
set_option maxHeartbeats 4000000
namespace Mine
/-- the word that letter k's pair puts in, by its way -/
def nwOf (k : Nat) (v : Int) : List Nat := if v = 0 then [65 + k] else if v = 1 then [49 + k] else []
def Wy (wl : List Int) : Prop := wl.length = 3 ∧ ∀ v ∈ wl, v = 0 ∨ v = 1 ∨ v = 2
def nwL (wl : List Int) : List (List Nat) := [nwOf 0 (wl.getD 0 0), nwOf 1 (wl.getD 1 0), nwOf 2 (wl.getD 2 0)]
section
variable {S : Shared} {w : World} {A : Around} {h h' h₀ : Heap} {env : Env} {L : Nat} {m mg mb : Str → Option Value} {l l' c c' : List (Str × Value)} {cs : List (Str × Nat)} {ps : Array Value}
theorem law_s3 {z : Int} {tz : Tok} {Q : Flow → Heap → Prop} (X : LS h₀ L h l c ps) (hl : l.lookup (Str.ofString "total") = some (.int z tz))
    (q : ∀ h' o tk, LS h₀ L h' l (put "order" (.str (T o) tk) c) ps → LP h h' → o ∈ perms → Q .next h') : W S w A (exec (lawS 3) (lawE L)) Q h := by
  refine rAsgN (rSub (rList (rItC (rStr fun t1 => rItC (rStr fun t2 => rItC (rStr fun t3 => rItC (rStr fun t4 => rItC (rStr fun t5 => rItC (rStr fun t6 => rItN ⟨by simp, fun h₄ b g₄ _ x₄ => ?_⟩)))))))))
  refine rBin (rLl (X.grow g₄) hl (rInt fun _ => rMod (by decide) fun _ => ?_))
  have go : ∀ (s : Str) (o : List Nat) (tk : Tok), s = T o → o ∈ perms → W S w A (storeName (lawE L) (Str.ofString "order") (.str s tk)) (fun _ h₂ => Q .next h₂) h₄ := fun s o tk e1 e2 => by
    rw [e1]
    exact rSC (X.grow g₄) fun h₅ X₅ p₅ => q h₅ o tk X₅ ((LP.of_grow g₄).trans p₅) e2
  rcases fm6 z with e | e | e | e | e | e
  · rw [e]; exact rGetL x₄ (by decide) (by decide) rfl (go _ _ _ ofS_abc (by decide)) sbBin
  · rw [e]; exact rGetL x₄ (by decide) (by decide) rfl (go _ _ _ ofS_acb (by decide)) sbBin
  · rw [e]; exact rGetL x₄ (by decide) (by decide) rfl (go _ _ _ ofS_bac (by decide)) sbBin
  · rw [e]; exact rGetL x₄ (by decide) (by decide) rfl (go _ _ _ ofS_bca (by decide)) sbBin
  · rw [e]; exact rGetL x₄ (by decide) (by decide) rfl (go _ _ _ ofS_cab (by decide)) sbBin
  · rw [e]; exact rGetL x₄ (by decide) (by decide) rfl (go _ _ _ ofS_cba (by decide)) sbBin
theorem law_s4 {z : Int} {tz : Tok} {Q : Flow → Heap → Prop} (X : LS h₀ L h l c ps) (hl : l.lookup (Str.ofString "total") = some (.int z tz))
    (q : ∀ h' r tk, LS h₀ L h' l (put "reach" (.int r tk) c) ps → LP h h' → 0 ≤ r → r ≤ 14 → Q .next h') : W S w A (exec (lawS 4) (lawE L)) Q h := by
  refine rAsgN (rBin (rBin (rBin (rLl X hl (rInt fun _ => rFd (by decide) (PyProof.noPylong_small (by decide)) fun _ => rInt fun _ => rAdd fun _ => rInt fun _ => rMod (by decide) fun tk => ?_)))))
  have := Int.fmod_eq_emod_of_nonneg (z.fdiv 6 + 4) (show (0 : Int) ≤ 15 by decide)
  exact rSC X fun h₅ X₅ p₅ => q h₅ _ tk X₅ p₅ (by omega) (by omega)
theorem law_s5 {n a : Nat} {nums : List Int} {Q : Flow → Heap → Prop} (O : OkA n A) (X : LS h₀ L h l c ps) (hl : l.lookup (Str.ofString "numbers") = some (.ref a)) (hn : PI h a nums) (h6 : nums.length = 6)
    (q : ∀ h' b wl, LS h₀ L h' l (put "ways" (.ref b) c) ps → LP h h' → IL h' b wl → Wy wl → Q .next h') : W S w A (exec (lawS 5) (lawE L)) Q h := by
  obtain ⟨vs, xs, ys⟩ := hn
  have hvl : vs.length = nums.length := intsAre_len ys
  let f : Int → Int := fun x => (x.fdiv 5).fmod 3
  refine rAsgN (rLC 3 (fun i v => (vs.take 3)[i]? = some v) (fun _ => true) (fun v y => ∃ k u u', v = .int k u ∧ y = .int (f k) u') rfl ?_)
  refine rSlL (rLl X hl (rPN (rPS (rInt fun tk => ⟨a, vs, none, some 3, rfl, xs.isList, by omega, .none, .int _ _, fun b h₁ g₁ x₁ => ?_⟩))))
  rw [show (some (3 : Int)) = some ((3 : Nat) : Int) from rfl, pick_upto] at x₁
  have h3 : (vs.take 3).length = 3 := by simp; omega
  have src := Src.list (S := S) (w := w) O.hd x₁.isList
  rw [h3] at src
  refine ⟨⟨_, src⟩, by omega, fun S' C i v h₃ F₃ hv => rT0 ⟨rfl, Grow.refl _⟩, ?_, ?_⟩
  · rintro S' C i v h₃ F₃ hv _
    obtain ⟨k, u, rfl, _⟩ := (ys.take 3).at i v hv
    exact rBin (rBin (rL F₃ rfl (rInt fun _ => rFd (by decide) (PyProof.noPylong_small (by decide)) fun _ => rInt fun _ => rMod (by decide) fun u' => ⟨⟨k, u, u', rfl, rfl⟩, Grow.refl _⟩)))
  · intro D h' zs us g hD hlen hP hF
    rw [filter_tt] at hF
    have hp := paired_map (xs := nums.take 3) (V := fun d v => ∃ u, v = Value.int d u) (U := fun s y => ∃ t, y = Value.int s t) (g := f) (fun x v y _ ⟨u, e⟩ ⟨d, u1, u2, e1, e2⟩ => by
      rw [e] at e1
      injection e1 with e1 _
      subst e1; exact ⟨u2, e2⟩) (by rw [hlen]; simp; omega) (fun j v hj => let ⟨k, t, a, b⟩ := (ys.take 3).at j v (hP j v hj); ⟨k, b, t, a⟩) hF
    refine rSC (X.grow (g₁.trans g)) fun h₅ X₅ p₅ => q h₅ D _ X₅ ((LP.of_grow (g₁.trans g)).trans p₅) ⟨zs, p₅.lst hD, ints_of_paired hp⟩ ⟨by simp; omega, fun v hv => ?_⟩
    obtain ⟨k, _, rfl⟩ := List.mem_map.mp hv
    have := Int.fmod_eq_emod_of_nonneg (k.fdiv 5) (show (0 : Int) ≤ 3 by decide)
    show (k.fdiv 5).fmod 3 = 0 ∨ (k.fdiv 5).fmod 3 = 1 ∨ (k.fdiv 5).fmod 3 = 2
    omega
theorem law_s6 {n a : Nat} {wl : List Int} {Q : Flow → Heap → Prop} (G : Gl w mg mb h₀) (O : OkA n A) (X : LS h₀ L h l c ps) (hc : c.lookup (Str.ofString "ways") = some (.ref a)) (hw : IL h a wl) (hW : Wy wl)
    (q : ∀ h' b, LS h₀ L h' l (put "new" (.ref b) c) ps → LP h h' → SL h' b (nwL wl) → Q .next h') : W S w A (exec (lawS 6) (lawE L)) Q h := by
  have G₀ := X.gl G
  have cw : h.IsCell (L + 1 + 1) (some (.ref a)) := X.lc.get hc rfl
  refine rAsgN (rLC 3 (fun i v => i < 3 ∧ ∃ t, v = .int (i : Int) t) (fun _ => true) (fun v y => ∃ (k : Nat) (u u' : Tok), v = .int (k : Int) u ∧ y = .str (T (nwOf k (wl.getD k 0))) u') rfl ?_)
  refine rCallN (rBlt G₀ G.fr.2.1 boot_range (rCT (rItC (rInt fun _ => rItN (rRange1 fun h₁ rr x1 x2 x3 g₁ hrg => ?_)))))
  refine ⟨⟨_, Src.range (n := 3) O.hd hrg (by omega)⟩, by omega, fun S' C i v h₃ F₃ hv => rT0 ⟨rfl, Grow.refl _⟩, ?_, ?_⟩
  · rintro S' C i v h₃ F₃ ⟨hi, u, rfl⟩ _
    have cA : Txt.charAt (T [65, 66, 67]) (i : Int) = some (65 + i) := item_pos (by omega) (by
      have : i = 0 ∨ i = 1 ∨ i = 2 := by omega
      rcases this with rfl | rfl | rfl <;> rfl)
    have c1 : Txt.charAt (T [49, 50, 51]) (i : Int) = some (49 + i) := item_pos (by omega) (by
      have : i = 0 ∨ i = 1 ∨ i = 2 := by omega
      rcases this with rfl | rfl | rfl <;> rfl)
    refine rSub (rList (rItC (rSub (rStr fun t1 => rL F₃ rfl ?_))))
    rw [ofS_ABC]
    refine rChr (by omega) (by omega) cA (fun t2 => rItC (rSub (rStr fun t3 => rL F₃ rfl ?_))) sbName
    rw [ofS_123]
    refine rChr (by omega) (by omega) c1 (fun t4 => rItC (rStr fun t5 => rItN ⟨by simp, fun h₄ b g₄ _ x₄ => ?_⟩)) sbName
    have F₄ := F₃.grow g₄
    have ew : wl[i]? = some (wl.getD i 0) := by
      have : i < wl.length := by rw [hW.1]; exact hi
      simp [List.getD, List.getElem?_eq_getElem this]
    refine rSub (rCell (F₄.keep.cell (g₁.cell cw)) (rL F₄ rfl (rGetIL ((hw.grow g₁).grow F₄.keep) (by omega) ew (fun t6 => ?_) sbName)))
    have hwv := hW.2 (wl.getD i 0) (List.mem_of_getElem? ew)
    have go : ∀ (s : Str) (tk : Tok), s = T (nwOf i (wl.getD i 0)) → (∃ (k : Nat) (u' u'' : Tok), Value.int (i : Int) u = .int (k : Int) u' ∧ Value.str s tk = .str (T (nwOf k (wl.getD k 0))) u'') ∧ Grow h₃ h₄ := fun s tk e => ⟨⟨i, u, tk, rfl, by rw [e]⟩, g₄⟩
    rcases hwv with e | e | e
    · rw [e]; exact rGetL x₄ (by decide) (by decide) rfl (go _ _ (by rw [e]; rfl)) sbSub
    · rw [e]; exact rGetL x₄ (by decide) (by decide) rfl (go _ _ (by rw [e]; rfl)) sbSub
    · rw [e]; exact rGetL x₄ (by decide) (by decide) rfl (go _ _ (by rw [e]; exact ofS_empty)) sbSub
  · intro D h' zs us g hD hlen hP hF
    rw [filter_tt] at hF
    have hp := paired_map (xs := [0, 1, 2]) (V := fun (d : Nat) v => ∃ u, v = Value.int (d : Int) u) (U := fun s y => ∃ t, y = Value.str (T s) t) (g := fun k => nwOf k (wl.getD k 0)) (fun x v y _ ⟨u, e⟩ ⟨d, u1, u2, e1, e2⟩ => by
      rw [e] at e1
      injection e1 with e1 _
      have : x = d := by omega
      subst this; exact ⟨u2, e2⟩) (by rw [hlen]; rfl) (fun j v hj => by
        obtain ⟨hj3, t, e⟩ := hP j v hj
        refine ⟨j, ?_, t, e⟩
        have : j = 0 ∨ j = 1 ∨ j = 2 := by omega
        rcases this with rfl | rfl | rfl <;> rfl) hF
    exact rSC (X.grow (g₁.trans g)) fun h₅ X₅ p₅ => q h₅ D X₅ ((LP.of_grow (g₁.trans g)).trans p₅) ⟨zs, p₅.lst hD, strs_of_paired hp⟩
theorem law_s7 {Q : Flow → Heap → Prop} (X : LS h₀ L h l c ps) (q : ∀ h' b, LS h₀ L h' l (put "pairs" (.ref b) c) ps → LP h h' → PS h' b [] → Q .next h') : W S w A (exec (lawS 7) (lawE L)) Q h :=
  rAsgN (rListP (rItN ⟨by simp, fun h₁ b g _ x => rSC (X.grow g) fun h₂ X₂ p₂ => q h₂ b X₂ ((LP.of_grow g).trans p₂) ⟨[], p₂.plain x, .nil⟩⟩))
theorem law_s8 {Q : Flow → Heap → Prop} (X : LS h₀ L h l c ps) (q : ∀ h' b, LS h₀ L h' l (put "miles" (.ref b) c) ps → LP h h' → PI h' b [0] → Q .next h') : W S w A (exec (lawS 8) (lawE L)) Q h :=
  rAsgN (rListP (rItC (rInt fun t => rItN ⟨by simp, fun h₁ b g _ x => rSC (X.grow g) fun h₂ X₂ p₂ => q h₂ b X₂ ((LP.of_grow g).trans p₂) ⟨[.int 0 t], p₂.plain x, .cons _ _ .nil⟩⟩)))
end
end Mine
open PySem PySem.W PyProof.Rows PySem.Calls
set_option Elab.async false
set_option maxRecDepth 100000
set_option maxHeartbeats 4000000
namespace Mine
def cnt (d : Nat) (x : List Nat) : Nat := (x.filter (· == d)).length
def price (wl : List Int) (x : List Nat) (d : Nat) : Int := (if wl.getD (d - 97) 0 = 0 then 1 else 2) * (cnt d x : Int)
noncomputable def mil (wl : List Int) (x o : List Nat) : Nat → Int
  | 0 => 0
  | j + 1 => mil wl x o j + price wl x (o.getD j 0)
noncomputable def mls (wl : List Int) (x o : List Nat) (i : Nat) : List Int := (List.range (i + 1)).map (mil wl x o)
def prs (wl : List Int) (o : List Nat) (i : Nat) : List (Nat × List Nat) := (o.take i).map fun d => (d, (nwL wl).getD (d - 97) [])
theorem mls_succ (wl : List Int) (x o : List Nat) (i : Nat) : mls wl x o (i + 1) = mls wl x o i ++ [mil wl x o i + price wl x (o.getD i 0)] := by
  unfold mls
  rw [List.range_succ, List.map_append]; rfl
theorem prs_succ (wl : List Int) {o : List Nat} {i d : Nat} (h : o[i]? = some d) : prs wl o (i + 1) = prs wl o i ++ [(d, (nwL wl).getD (d - 97) [])] := by
  unfold prs
  rw [List.take_add_one, h, List.map_append]; rfl
theorem flat_snoc (ps : List (Nat × List Nat)) (p : Nat × List Nat) : flat (ps ++ [p]) = flat ps ++ [[p.1], p.2] := by
  unfold flat
  rw [List.flatMap_append]; rfl
theorem flat_len (ps : List (Nat × List Nat)) : (flat ps).length = 2 * ps.length := by
  unfold flat
  induction ps with
  | nil => rfl
  | cons p ps ih => rw [List.flatMap_cons, List.length_append, ih, List.length_cons]; simp; omega
def isOne (d : Nat) : Value → Bool
  | .str s _ => s == T [d]
  | _ => false
theorem one_beq (c d : Nat) : (T [c] == T [d]) = (c == d) := by
  rw [T_beq]
  by_cases h : c = d
  · subst h; simp
  · simp [h]
theorem cnt_of : ∀ {vs : List Value} {x : List Nat} (d : Nat), vs.length = x.length → (∀ (j : Nat) (v : Value), vs[j]? = some v → ∃ c u, x[j]? = some c ∧ v = .str (T [c]) u) → (vs.filter (isOne d)).length = cnt d x
  | [], [], _, _, _ => rfl
  | v :: vs, c :: x, d, hl, hp => by
    have ih := cnt_of (vs := vs) (x := x) d (by simpa using hl) fun j v hj => by simpa using hp (j + 1) v (by simpa using hj)
    obtain ⟨c', u, e, rfl⟩ := hp 0 v rfl
    simp at e
    subst e
    unfold cnt at ih ⊢
    have e1 : isOne d (.str (T [c]) u) = (c == d) := one_beq c d
    rw [List.filter_cons, List.filter_cons, e1]
    split
    · rw [List.length_cons, List.length_cons, ih]
    · exact ih
section
variable {S : Shared} {w : World} {A : Around} {h h' h₀ : Heap} {env : Env} {L : Nat} {m mg mb : Str → Option Value} {l l' c c' : List (Str × Value)} {cs : List (Str × Nat)} {ps : Array Value}
theorem rSLs {x : Str} {v : Value} {Q : Unit → Heap → Prop} (X : LS h₀ L h l c ps) (q : ∀ h', LS h₀ L h' (put x v l) c ps → LP h h' → Heap.SameBut L h h' → Q () h')
    (hx : (lawE L).kindOf x = some .local := by rfl) : W S w A (storeName (lawE L) x v) Q h := by
  obtain ⟨m, F, _⟩ := id X.lo
  obtain ⟨oL, es, ep, eL, dL, _⟩ := F.ns
  refine rS X.lo (fun h' F' s => q h' ⟨F', ?_, get_same X.tb s (by have := X.hL; omega), X.hL⟩ (LP.of_same s eL (fun xs n e => by rw [dL] at e; cases e)) s) rfl rfl hx
  obtain ⟨cm, Y, e⟩ := X.lc
  exact ⟨cm, Y.sameBut s (Nat.le_refl _), e⟩
theorem rSCs {x : Str} {a : Nat} {v : Value} {Q : Unit → Heap → Prop} (X : LS h₀ L h l c ps) (q : ∀ h', LS h₀ L h' l (put x v c) ps → LP h h' → Heap.SameBut a h h' → Q () h')
    (ha : (lawCs L).lookup x = some a := by rfl) (hx : (lawE L).kindOf x = some .cell := by rfl) : W S w A (storeName (lawE L) x v) Q h := by
  obtain ⟨cm, Y, e⟩ := X.lc
  have hLa : L < a := Y.above x a (mem_of_lookup ha)
  refine ⟨fun _ => wpAny_storeName_cell rfl hx ha (Y.cell x a ha) fun h' hv s => ⟨_, _, rfl, q h' ⟨X.lo.ext s.extBut hLa, ⟨fun y => if y = x then some v else cm y, ⟨fun n b eb => ?_, Y.apart, Y.above⟩, put_ok e⟩, get_same X.tb s (by have := X.hL; omega), X.hL⟩ ?_ s⟩⟩
  · by_cases hn : n = x
    · subst hn; rw [ha] at eb; cases eb; simpa using hv
    · have hcc : b ≠ a := fun q => hn (name_of_addr Y.apart (mem_of_lookup eb) (q ▸ mem_of_lookup ha))
      simpa [hn] using (Y.cell n b eb).sameBut s hcc
  · obtain ⟨o, eo, d⟩ := Y.cell x a ha
    exact LP.of_same s eo (fun xs n e => by rw [d] at e; cases e)
/-- for x in a text: J i holds ahead of turn i; a turn keeps the iterator's object -/
theorem rForT {x : Str} {px : Pos} {iter : Expr} {body orelse : List Stmt} {pos : Pos} {Q : Flow → Heap → Prop} (o : List Nat) (hh : A.handled = none) (ho : ∀ d ∈ o, d < 128)
    (q : W S w A (eval iter env) (fun xv h₁ => ∃ t, xv = .str (T o) t ∧ ∃ (J : Nat → Heap → Prop), J 0 h₁ ∧
      (∀ i h h', J i h → Heap.ExtBut h₁.objs.size h h' → LP h h' → J i h') ∧
      (∀ i d tk h, o[i]? = some d → J i h → W S w A (storeName env x (.str (T [d]) tk)) (fun _ h₂ => W S w A (execs body env) (fun f h₃ => match f with
        | .next | .cont => J (i + 1) h₃ ∧ (∀ o, h.get? h₁.objs.size = some o → h₃.get? h₁.objs.size = some o) | .brk => Q .next h₃ | .ret v => Q (.ret v) h₃) h₂) h) ∧
      (∀ h, J o.length h → W S w A (execs orelse env) Q h)) h)
    (hs : ∀ x, foldedSetIterable iter env x = Pure.pure x := by intro _; rfl) : W S w A (exec (.For (.Name x px) iter body orelse pos) env) Q h := by
  refine rForG (q.mono fun xv h₁ q₁ => ?_) hs
  obtain ⟨t, rfl, J, j0, stab, turn, fin⟩ := q₁
  have ha : (T o).cps.all (· < 128) = true := by
    show o.toArray.all (· < 128) = true
    simpa using ho
  refine ⟨fun tk => wpAny_pyIter_ascii ha ⟨_, _, rfl, ?_⟩⟩
  have Wk := Walks.strAscii (prog := PG) (w := w) (A := A) hh h₁.objs.size (T o) t
  have e : (T o).cps.size = o.length := by simp
  rw [e] at Wk
  refine ⟨fun k h => ∃ i, i + k = o.length ∧ J i h ∧ h.IsStrIter h₁.objs.size "str_ascii_iterator" (T o) t i, o.length, fun _ => rfl, ⟨0, by omega, stab _ _ _ j0 (fun b o' _ e => Grow.push _ _ _ _ e) (LP.of_grow (Grow.push _ _)), ⟨_, Heap.get?_push_size _ rfl, rfl, rfl⟩⟩, fun k h ⟨i, hi, hj, hst⟩ => ?_⟩
  have ext : ∀ {h' : Heap}, (∀ b o, b ∉ [h₁.objs.size] → h.get? b = some o → h'.get? b = some o) → Heap.ExtBut h₁.objs.size h h' := fun hk b o hne e => hk b o (fun q => hne (List.mem_singleton.mp q)) e
  have lp : ∀ {h' : Heap}, (∀ b o, b ∉ [h₁.objs.size] → h.get? b = some o → h'.get? b = some o) → LP h h' := fun hk b o' xs n e d => hk b o' (fun q => by
    obtain ⟨oi, ei, _, di⟩ := id hst
    rw [List.mem_singleton.mp q, ei] at e
    cases e; rw [di] at d; cases d) e
  by_cases hk : k = 0
  · subst hk
    have : i = o.length := by omega
    subst this
    exact ⟨fun tk => Wk.done _ _ _ hst fun h' tk' hk => ⟨_, _, rfl, fin h' (stab _ _ _ hj (ext hk) (lp hk))⟩⟩
  · refine ⟨fun tk => Wk.item i _ _ _ (by omega) hst fun v h' tk' hP hst' hk => ⟨_, _, rfl, ?_⟩⟩
    show W S w A (assign (.Name x px) env v) _ _
    obtain ⟨d, u, hd, rfl⟩ := hP
    refine ⟨fun tk' => wpAny_assign_Name ((turn i d u h' (by simpa using hd) (stab _ _ _ hj (ext hk) (lp hk))).run fun _ h₂ tk₂ q₂ => ⟨_, _, rfl, q₂.mono fun f h₃ q₃ => ?_⟩)⟩
    have nx : J (i + 1) h₃ ∧ (∀ o, h'.get? h₁.objs.size = some o → h₃.get? h₁.objs.size = some o) → ∃ m, m < k ∧ ∃ j, j + m = o.length ∧ J j h₃ ∧ h₃.IsStrIter h₁.objs.size "str_ascii_iterator" (T o) t j := fun ⟨hj', hw⟩ =>
      ⟨k - 1, by omega, i + 1, by omega, hj', Wk.frame _ _ _ hst' fun b hb o e => by
        rw [List.mem_singleton.mp hb] at e ⊢
        exact hw o e⟩
    cases f with
    | next => exact nx q₃
    | cont => exact nx q₃
    | brk => exact q₃
    | ret v => exact q₃
theorem rGetLast {value slice : Expr} {a : Nat} {ns : List Int} {u : Tok} {n : Int} {Q : Value → Heap → Prop} (x : IL h a (ns ++ [n])) (hl : ns.length ≤ 1000) (q : ∀ t, Q (.int n t) h)
    (hs : subscripted slice false (.ref a) (.int (-1) u) = operate [.ref a, .int (-1) u] (getItem (.ref a) (.int (-1) u))) : W S w A (subscriptTail value slice (.ref a) (.int (-1) u)) Q h := by
  obtain ⟨vs, x, y⟩ := x
  have hlen := intsAre_len y
  simp at hlen
  obtain ⟨t, e⟩ := intsAre_get y (i := ns.length) (n := n) (by simp)
  exact ⟨fun _ => tail_any (T := "list") (id := "list.__getitem__") x.typeIs slot_list_getitem.lookup (wpAny_getItem_list_neg x (by omega) (by simp; omega) (by omega) (by
    have : ((-1 : Int) + (vs.toArray.size : Int)).toNat = ns.length := by simp; omega
    rw [this]; simpa using e) ⟨_, _, rfl, q t⟩) hs⟩
end
end Mine
open PySem PySem.W PyProof.Rows PySem.Calls
set_option Elab.async false
set_option maxRecDepth 100000
set_option maxHeartbeats 4000000
namespace Mine
abbrev c7 (text order reach ways new pairs miles : Value) : List (Str × Value) := [("text", text), ("order", order), ("reach", reach), ("ways", ways), ("new", new), ("pairs", pairs), ("miles", miles)]
theorem perm_mem {o : List Nat} (h : o ∈ perms) : o.length = 3 ∧ (∀ d ∈ o, d = 97 ∨ d = 98 ∨ d = 99) := by
  unfold perms at h
  simp at h
  rcases h with rfl | rfl | rfl | rfl | rfl | rfl <;> simp
theorem nwL_len (wl : List Int) : (nwL wl).length = 3 := rfl
theorem nwOf_len (k : Nat) (v : Int) : (nwOf k v).length ≤ 1 := by unfold nwOf; split; simp; split <;> simp
theorem nwL_one (wl : List Int) : ∀ z ∈ nwL wl, z.length ≤ 1 := by
  intro z hz
  unfold nwL at hz
  simp at hz
  rcases hz with rfl | rfl | rfl <;> exact nwOf_len _ _
theorem nwL_get {wl : List Int} {k : Nat} (hk : k < 3) : (nwL wl)[k]? = some ((nwL wl).getD k []) := by
  have : k < (nwL wl).length := hk
  simp [List.getD, List.getElem?_eq_getElem this]
theorem cnt_le (d : Nat) (x : List Nat) : cnt d x ≤ x.length := List.length_filter_le _ _
theorem prs_len (wl : List Int) (o : List Nat) (i : Nat) : (prs wl o i).length ≤ i := by unfold prs; simp; omega
theorem paired_len {F : Value → Value → Prop} : ∀ {xs ys : List Value}, Paired F xs ys → xs.length = ys.length
  | _, _, .nil => rfl
  | _, _, .cons _ r => by rw [List.length_cons, List.length_cons, paired_len r]
section
variable {S : Shared} {w : World} {A : Around} {h h' h₀ : Heap} {env : Env} {L : Nat} {m mg mb : Str → Option Value} {l l' c c' : List (Str × Value)} {cs : List (Str × Nat)} {ps : Array Value}
theorem LS.subc (X : LS h₀ L h l c ps) (s : ∀ p ∈ c', p ∈ c) : LS h₀ L h l c' ps := ⟨X.lo, let ⟨cm, Y, e⟩ := X.lc; ⟨cm, Y, fun p hp => e p (s p hp)⟩, X.tb, X.hL⟩
theorem LS.nol (X : LS h₀ L h l c ps) : LS h₀ L h [] c ps := X.subl (by intro p hp; cases hp)
theorem LS.takec (X : LS h₀ L h l c ps) (k : Nat) : LS h₀ L h l (c.take k) ps := X.subc fun _ hp => List.mem_of_mem_take hp
theorem LS.ltc (X : LS h₀ L h l c ps) {x : Str} {a : Nat} (ha : (lawCs L).lookup x = some a) : a < h.objs.size := let ⟨cm, Y, _⟩ := X.lc; let ⟨_, e, _⟩ := Y.cell x a ha; Heap.lt_size e
theorem LS.ext {b : Nat} (X : LS h₀ L h l c ps) (g : Heap.ExtBut b h h') (hb : ∀ n a, (n, a) ∈ lawCs L → a ≠ b) (hL : L < b) : LS h₀ L h' l c ps :=
  ⟨X.lo.ext g hL, X.lc.ext g hb, g _ _ (Nat.ne_of_lt (Nat.lt_trans X.hL hL)) X.tb, X.hL⟩
theorem LS.all (X : LS h₀ L h l c ps) : ∀ n a, (n, a) ∈ lawCs L → a < h.objs.size := by
  have h1 : L + 1 < h.objs.size := X.ltc (x := "order") rfl
  have h10 : L + 10 < h.objs.size := X.ltc (x := "text") rfl
  intro n a hm
  have : a ≤ L + 10 := by
    have e : lawCs L = ([("text", L + 1 + 1 + 1 + 1 + 1 + 1 + 1 + 1 + 1 + 1), ("road", L + 1 + 1 + 1 + 1 + 1 + 1 + 1 + 1 + 1), ("reach", L + 1 + 1 + 1 + 1 + 1 + 1 + 1 + 1), ("half", L + 1 + 1 + 1 + 1 + 1 + 1 + 1), ("sign", L + 1 + 1 + 1 + 1 + 1 + 1), ("miles", L + 1 + 1 + 1 + 1 + 1), ("pairs", L + 1 + 1 + 1 + 1), ("new", L + 1 + 1 + 1), ("ways", L + 1 + 1), ("order", L + 1)] : List (Str × Nat)) := rfl
    rw [e] at hm
    simp at hm
    omega
  omega
end
end Mine
open PySem PySem.W PyProof.Rows PySem.Calls
set_option Elab.async false
set_option maxRecDepth 100000
set_option maxHeartbeats 4000000
namespace Mine
theorem strsAre_app : ∀ {vs us : List Value} {ys zs : List Str}, StrsAre vs ys → StrsAre us zs → StrsAre (vs ++ us) (ys ++ zs)
  | _, _, _, _, .nil, r => r
  | _, _, _, _, .cons y t r, r' => .cons y t (strsAre_app r r')
section
variable {S : Shared} {w : World} {A : Around} {h h' h₀ : Heap} {env : Env} {L : Nat} {m mg mb : Str → Option Value} {l l' c c' : List (Str × Value)} {cs : List (Str × Nat)} {ps : Array Value}
/-- the lists at turn i -/
structure Ls (h : Heap) (wa na pa ma : Nat) (wl : List Int) (x o : List Nat) (i : Nat) : Prop where
  w : IL h wa wl
  n : SL h na (nwL wl)
  p : PS h pa (flat (prs wl o i))
  m : PI h ma (mls wl x o i)
theorem Ls.lp {wa na pa ma : Nat} {wl : List Int} {x o : List Nat} {i : Nat} (X : Ls h wa na pa ma wl x o i) (p : LP h h') : Ls h' wa na pa ma wl x o i := ⟨X.w.lp p, X.n.lp p, X.p.lp p, X.m.lp p⟩
theorem law_s9 {n wa na pa ma : Nat} {wl : List Int} {x o : List Nat} {tx to : Tok} {rv : Value} {Q : Flow → Heap → Prop} (G : Gl w mg mb h₀) (O : OkA n A) (hW : Wy wl) (hx : Tx x) (ho : o ∈ perms)
    (X : LS h₀ L h [] (c7 (.str (T x) tx) (.str (T o) to) rv (.ref wa) (.ref na) (.ref pa) (.ref ma)) ps) (B : Ls h wa na pa ma wl x o 0)
    (q : ∀ h' pa ma, LS h₀ L h' [] (c7 (.str (T x) tx) (.str (T o) to) rv (.ref wa) (.ref na) (.ref pa) (.ref ma)) ps → LP h h' → Ls h' wa na pa ma wl x o 3 → Q .next h') : W S w A (exec (lawS 9) (lawE L)) Q h := by
  obtain ⟨ho3, hod⟩ := perm_mem ho
  have I1 := X.lo.lt
  have I2 := X.all
  refine rForT o O.hd (fun d hd => by have := hod d hd; omega) (rLc X rfl ⟨to, rfl, fun i h' => ∃ pa ma, LS h₀ L h' [] (c7 (.str (T x) tx) (.str (T o) to) rv (.ref wa) (.ref na) (.ref pa) (.ref ma)) ps ∧ LP h h' ∧ Ls h' wa na pa ma wl x o i, ⟨pa, ma, X, LP.of_grow (Grow.refl _), B⟩, ?_, ?_, ?_⟩)
  · rintro i h₁ h₂ ⟨pa, ma, X₁, p₁, B₁⟩ e p
    exact ⟨pa, ma, X₁.ext e (fun n a hm => Nat.ne_of_lt (I2 n a hm)) I1, p₁.trans p, B₁.lp p⟩
  · rintro i d tk h₁ hd ⟨pa, ma, X₁, p₁, B₁⟩
    have hdd := hod d (List.mem_of_getElem? hd)
    have hi : i < 3 := by rw [← ho3]; exact (List.getElem?_eq_some_iff.mp hd).1
    have hdk : d - 97 < 3 := by omega
    refine rSCs X₁ fun h₂ X₂ p₂ s₂ => ?_
    -- k = 'abc'.index(sign)
    refine rSeq (rAsgN (rMeth abC (rStr fun _ => rGMindex (rCM1 (rItC (rLc X₂ rfl (rItN (rIdx hdd fun tkk => rSLs X₂ fun h₃ X₃ p₃ s₃ => nx_next ?_))))))))
    have B₃ := (B₁.lp p₂).lp p₃
    -- pairs = pairs + [sign, new[k]]
    refine rSeq (rAsgN (rBin (rLc X₃ rfl (rListP (rItC (rLc X₃ rfl (rItC (rSub (rLc X₃ rfl (rLl X₃ rfl (rGetSL B₃.n (by omega) (nwL_get hdk) (fun t2 => rItN ⟨by simp, fun h₄ b₄ g₄ _ x₄ => ?_⟩) sbName)))))))))))
    obtain ⟨vp, xp, yp⟩ := id B₃.p
    have lp : vp.length ≤ 6 := by
      have := prs_len wl o i
      rw [yp.len_eq, List.length_map, flat_len]; omega
    refine rAddP (plain_grow xp g₄) x₄ (by simp; omega) fun h₅ b₅ g₅ x₅ => ?_
    have g₃₅ := g₄.trans g₅
    refine rSCs (X₃.grow g₃₅) fun h₆ X₆ p₆ s₆ => nx_next ?_
    have B₆ := (B₃.lp (LP.of_grow g₃₅)).lp p₆
    have x₆ := p₆.plain x₅
    -- miles = miles + [..]
    have hlm : (mls wl x o i).length = i + 1 := by unfold mls; simp
    have hml : mls wl x o i = (List.range i).map (mil wl x o) ++ [mil wl x o i] := by unfold mls; rw [List.range_succ, List.map_append]; rfl
    have im := B₆.m.il
    rw [hml] at im
    have cw : wl[d - 97]? = some (wl.getD (d - 97) 0) := by
      have : d - 97 < wl.length := by rw [hW.1]; exact hdk
      simp [List.getD, List.getElem?_eq_getElem this]
    have hwv := hW.2 _ (List.mem_of_getElem? cw)
    refine rSeq (rAsgN (rBin (rLc X₆ rfl (rListP (rItC (rBin (rSub (rLc X₆ rfl (rUn (rInt fun _ => rNegI fun _ => rGetLast im (by simp; omega) (fun t6 => ?_) sbUn)))))))))) 
    refine rBin (rSub (rList (rItC (rInt fun a1 => rItC (rInt fun a2 => rItC (rInt fun a3 => rItN ⟨by simp, fun h₇ b₇ g₇ _ x₇ => ?_⟩))))))
    have X₇ := X₆.grow g₇
    have B₇ := B₆.lp (LP.of_grow g₇)
    refine rSub (rLc X₇ rfl (rLl X₇ rfl (rGetIL B₇.w (by omega) cw (fun t8 => ?_) sbName)))
    obtain ⟨k, z, ek, hk, ez, hz⟩ : ∃ (k : Nat) (z : Int), wl.getD (d - 97) 0 = (k : Int) ∧ k ≤ 2 ∧ ([1, 2, 2] : List Int)[k]? = some z ∧ (if wl.getD (d - 97) 0 = 0 then (1 : Int) else 2) = z ∧ 0 ≤ z ∧ z ≤ 2 := by
      rcases hwv with e | e | e
      · exact ⟨0, 1, e, by omega, rfl, by rw [e]; rfl, by omega, by omega⟩
      · exact ⟨1, 2, e, by omega, rfl, by rw [e]; rfl, by omega, by omega⟩
      · exact ⟨2, 2, e, by omega, rfl, by rw [e]; rfl, by omega, by omega⟩
    rw [ek]
    refine rGetIL (ns := [1, 2, 2]) ⟨_, x₇, .cons _ _ (.cons _ _ (.cons _ _ .nil))⟩ (by omega) ez (fun t9 => ?_) sbSub
    refine rCallN (rBlt (X₇.gl G) G.fr.1 boot_len (rCB (rItC ?_)))
    have cs : h₇.IsCell (L + 1 + 1 + 1 + 1 + 1 + 1) (some (.str (T [d]) tk)) := X₇.lc.get (x := "sign") rfl rfl
    refine rLC x.length (fun i v => ∃ c u, x[i]? = some c ∧ v = .str (T [c]) u) (isOne d) (fun _ _ => True) rfl (rLc X₇ rfl ⟨⟨_, Src.str O.hd⟩, by have := hx.2; omega, ?_, ?_, ?_⟩)
    · rintro S' C j v h₈ F₈ ⟨e, u, he, rfl⟩
      exact rT1 (rTCmp (rL F₈ rfl (rCell (F₈.keep.cell cs) (rEqStr (rTBool ⟨rfl, Grow.refl _⟩)))))
    · rintro S' C j v h₈ F₈ ⟨e, u, he, rfl⟩ _
      exact rL F₈ rfl ⟨trivial, Grow.refl _⟩
    · intro D h₈ zs us g₈ hD hlen hP hF
      have hc : zs.length = cnt d x := by rw [← paired_len hF]; exact cnt_of d hlen hP
      have hcl := cnt_le d x
      have hxl := hx.2
      refine rItN (rLenL hD (by omega) fun t10 => rMul (mulOk (by omega) (by omega)) fun t11 => rAdd fun t12 => rItN ⟨by simp, fun h₉ b₉ g₉ _ x₉ => ?_⟩)
      obtain ⟨vm, xm, ym⟩ := id B₇.m
      have lm := intsAre_len ym
      have gg := g₈.trans g₉
      refine rAddP (plain_grow xm gg) x₉ (by simp; omega) fun h₁₀ b₁₀ g₁₀ x₁₀ => ?_
      refine rSCs (X₇.grow (gg.trans g₁₀)) fun h₁₁ X₁₁ p₁₁ s₁₁ => nx_next (rNil ?_)
      have pp : LP h₆ h₁₁ := (LP.of_grow (g₇.trans (gg.trans g₁₀))).trans p₁₁
      have B₁₁ := B₆.lp pp
      refine ⟨⟨b₅, b₁₀, X₁₁.nol.takec 7, p₁.trans (p₂.trans (p₃.trans ((LP.of_grow g₃₅).trans (p₆.trans pp)))), ⟨B₁₁.w, B₁₁.n, ⟨_, pp.plain x₆, ?_⟩, ⟨_, p₁₁.plain x₁₀, ?_⟩⟩⟩, ?_⟩
      · rw [prs_succ wl hd, flat_snoc, List.map_append]
        exact strsAre_app yp (.cons _ _ (.cons _ _ .nil))
      · rw [mls_succ]
        refine IntsAre.append ym ?_
        have e1 : o.getD i 0 = d := by simp [List.getD, hd]
        have e2 : price wl x d = z * (zs.length : Int) := by unfold price; rw [hz.1, hc]
        rw [e1, e2]
        exact .cons _ _ .nil
      · intro oo e
        have c1 : (L + 1 + 1 + 1 + 1 + 1 + 1) < h.objs.size := X.ltc (x := "sign") rfl
        have e2 := get_same e s₂ (by omega)
        have e3 := get_same e2 s₃ (by omega)
        have e4 := get_same (g₃₅ _ _ e3) s₆ (by omega)
        exact get_same ((g₇.trans (gg.trans g₁₀)) _ _ e4) s₁₁ (by omega)
  · rintro h₁ ⟨pa, ma, X₁, p₁, B₁⟩
    rw [ho3] at B₁
    exact rNil (q h₁ pa ma X₁ p₁ B₁)
end
end Mine
open PySem PySem.W PyProof.Rows PySem.Calls
set_option Elab.async false
set_option maxRecDepth 100000
set_option maxHeartbeats 4000000
namespace Mine
theorem strsAre_take : ∀ {vs : List Value} {ys : List Str}, StrsAre vs ys → ∀ k, StrsAre (vs.take k) (ys.take k)
  | _, _, .nil, k => by simpa using StrsAre.nil
  | _, _, .cons y t r, 0 => .nil
  | _, _, .cons y t r, k + 1 => .cons y t (strsAre_take r k)
theorem strsAre_drop : ∀ {vs : List Value} {ys : List Str}, StrsAre vs ys → ∀ k, StrsAre (vs.drop k) (ys.drop k)
  | _, _, .nil, k => by simpa using StrsAre.nil
  | _, _, .cons y t r, 0 => .cons y t r
  | _, _, .cons y t r, k + 1 => strsAre_drop r k
theorem flat_take : ∀ (ps : List (Nat × List Nat)) (i : Nat), (flat ps).take (2 * i) = flat (ps.take i)
  | [], i => by simp [flat]
  | p :: ps, 0 => rfl
  | p :: ps, i + 1 => by
    have ih := flat_take ps i
    show ([p.1] :: p.2 :: flat ps).take (2 * i + 1 + 1) = [p.1] :: p.2 :: flat (ps.take i)
    rw [List.take_succ_cons, List.take_succ_cons, ih]
theorem prs_take {wl : List Int} {o : List Nat} {i : Nat} (hi : i ≤ 3) : (prs wl o 3).take i = prs wl o i := by
  unfold prs
  rw [← List.map_take, List.take_take, Nat.min_eq_left hi]
/-- data of plain lists -/
theorem canAll_strs : ∀ {xs : List (List Nat)}, (∀ x ∈ xs, ∀ d ∈ x, d < 128) → PyData.canLayAll0 ((xs.map T).map .str) = true
  | [], _ => rfl
  | x :: xs, h => by
    have h1 : PyData.strOk (T x) = true := by
      show x.toArray.all (· < 0x110000) = true
      simp
      intro d hd
      have := h x (.head _) d hd
      omega
    show (PyData.strOk (T x) && PyData.canLayAll0 ((xs.map T).map .str)) = true
    rw [h1, canAll_strs fun y hy => h y (.tail _ hy)]; rfl
theorem depAll_strs : ∀ {xs : List (List Nat)}, PyData.depthAll ((xs.map T).map .str) = 0
  | [] => rfl
  | x :: xs => by
    show max (PyData.depth (.str (T x))) (PyData.depthAll ((xs.map T).map .str)) = 0
    rw [depAll_strs]; rfl
theorem canAll_ints : ∀ {xs : List Int}, PyData.canLayAll0 (xs.map .int) = true
  | [] => rfl
  | x :: xs => by
    show (true && PyData.canLayAll0 (xs.map .int)) = true
    rw [canAll_ints]; rfl
theorem depAll_ints : ∀ {xs : List Int}, PyData.depthAll (xs.map .int) = 0
  | [] => rfl
  | x :: xs => by
    show max (PyData.depth (.int x)) (PyData.depthAll (xs.map .int)) = 0
    rw [depAll_ints]; rfl
theorem shaped_strs {xs : List (List Nat)} (h : ∀ x ∈ xs, ∀ d ∈ x, d < 128) : PySem.SeqAt.shaped (.list ((xs.map T).map .str)) = true := by
  unfold PySem.SeqAt.shaped
  have h1 : PyData.canLay0 (.list ((xs.map T).map .str)) = true := canAll_strs h
  have h2 : PyData.depth (.list ((xs.map T).map .str)) = 1 := by
    show PyData.depthAll ((xs.map T).map .str) + 1 = 1
    rw [depAll_strs]
  rw [h1, h2]; rfl
theorem shaped_ints {xs : List Int} : PySem.SeqAt.shaped (.list (xs.map .int)) = true := by
  unfold PySem.SeqAt.shaped
  have h1 : PyData.canLay0 (.list (xs.map .int)) = true := canAll_ints
  have h2 : PyData.depth (.list (xs.map .int)) = 1 := by
    show PyData.depthAll (xs.map .int) + 1 = 1
    rw [depAll_ints]
  rw [h1, h2]; rfl
section
variable {S : Shared} {w : World} {A : Around} {h h' h₀ : Heap} {env : Env} {L : Nat} {m mg mb : Str → Option Value} {l l' c c' : List (Str × Value)} {cs : List (Str × Nat)} {ps : Array Value}
theorem SL.reads {a : Nat} {xs : List (List Nat)} (x : SL h a xs) : Reads h (.ref a) (.list ((xs.map T).map .str)) [a] := let ⟨_, x, y⟩ := x; reads_newData x y.carried
theorem IL.reads {a : Nat} {xs : List Int} (x : IL h a xs) : Reads h (.ref a) (.list (xs.map .int)) [a] := let ⟨_, x, y⟩ := x; reads_newData x y.carried
theorem rNeSame {n : Nat} {a b : Value} {d : PyData} {as bs : List Nat} {Q : Value → Heap → Prop} (O : OkA n A) (hn : n ≤ 100) (ra : Reads h a d as) (rb : Reads h b d bs) (hs : PySem.SeqAt.shaped d = true) (q : Q (.bool false) h) :
    W S w A (compareOp .NotEq a b) Q h :=
  ⟨fun _ => ne_dataH ra rb hs hs (by have := O.un; show A.units + 64 < 9900; omega) ⟨_, _, rfl, by
    rw [PySem.SeqAt.eqv_refl d (PySem.SeqAt.canLay_of_shaped hs)]; exact q⟩⟩
theorem rEqSame {n : Nat} {a b : Value} {d : PyData} {as bs : List Nat} {Q : Value → Heap → Prop} (O : OkA n A) (hn : n ≤ 100) (ra : Reads h a d as) (rb : Reads h b d bs) (hs : PySem.SeqAt.shaped d = true) (q : Q (.bool true) h) :
    W S w A (compareOp .Eq a b) Q h :=
  ⟨fun _ => eq_dataH ra rb hs hs (by have := O.un; show A.units + 64 < 9900; omega) ⟨_, _, rfl, by
    rw [PySem.SeqAt.eqv_refl d (PySem.SeqAt.canLay_of_shaped hs)]; exact q⟩⟩
theorem rCS2 {pos : Pos} {a : Nat} {e : Expr} {rest : List Expr} {Q : Value → Heap → Prop} (X : (KK w).In h) (hk : keepIn (KK w) (.ref a) = true)
    (q : W S w A (spliced (backTo pos (starEach (e :: rest) env))) (fun vs h₁ => (KK w).In h₁ ∧ W S w A (call (.ref a) vs) Q h₁) h)
    (he : starEach (e :: rest) env = (false, eval e env) :: starEach rest env := by rfl) (hst : (backTo pos (starEach rest env)).any (·.1) = true := by rfl) :
    W S w A (callWith pos (.ref a) [] (backTo pos (starEach (e :: rest) env)) []) Q h :=
  ⟨fun _ => callWith_S2 (K := KK w) X hk (q.run fun _ _ _ q₁ => ⟨q₁.1, q₁.2.ok _⟩) he hst⟩
theorem rStarL {pos p : Pos} {e : Expr} {rest : List Expr} {Q : List Value → Heap → Prop}
    (q : W S w A (eval e env) (fun v h₁ => ∃ (a : Nat) (vs : List Value), v = .ref a ∧ h₁.IsList a vs.toArray ∧ vs.length ≤ 1000 ∧ ∀ h₂, Grow h₁ h₂ → W S w A (spliced (backTo pos (starEach rest env))) (fun us h₃ => Q (vs ++ us) h₃) h₂) h)
    (he : starEach (.Starred e p :: rest) env = (true, eval e env) :: starEach rest env := by rfl) : W S w A (spliced (backTo pos (starEach (.Starred e p :: rest) env))) Q h :=
  ⟨fun _ => items_star (q.run fun v h₁ tk₁ q₁ => by
    obtain ⟨a, vs, rfl, x, hz, q⟩ := q₁
    obtain ⟨o, ho, hc, n, hd⟩ := id x
    unfold StarOf notIterableAtAll
    refine wpAny_bind (wpAny_specialOf x.typeIs PySem.F.slot_list_iter.lookup (wpAny_pure ⟨rfl, ?_⟩))
    refine wpAny_collect_seq a (.inl rfl) ho hc hd (fun h' hk => ?_) (by simp; exact Nat.le_trans hz (by decide))
    exact (q h' hk).run fun us h₃ tk₃ q₃ => ⟨_, _, rfl, by simpa using q₃⟩) he⟩
/-- y = [.. for x in ..], y a local of the law -/
theorem rLCA {elt iter : Expr} {x y : Str} {px py : Pos} {ifs : List Expr} {scope : Scope} {cl : List (Str × Nat)} {pos spos : Pos} {Q : Flow → Heap → Prop} (n : Nat) (P : Nat → Value → Prop) (p : Value → Bool) (F : Value → Value → Prop)
    (hsw : swapsWith (.ListComp elt [⟨.Name x px, iter, ifs, 0⟩] scope pos) (some (.Name y py)) spos.line (lawE L) = Pure.pure true)
    (hclos : closureFor scope (lawE L) = Pure.pure cl)
    (q : W S w A (eval iter (lawE L)) (fun xv h₁ => (∃ fx, Src S w A h₁ xv fx n P) ∧ n ≤ 1000 ∧ LS h₀ L h₁ l c ps ∧
      (∀ S' C i v h₃, Lo h₁ C h₃ [(x, v)] → P i v → W S' w A (tests ifs (compEnvC scope cl C (lawE L))) (fun ok h₄ => ok = p v ∧ Grow h₃ h₄) h₃) ∧
      (∀ S' C i v h₃, Lo h₁ C h₃ [(x, v)] → P i v → p v = true → W S' w A (eval elt (compEnvC scope cl C (lawE L))) (fun y h₄ => F v y ∧ Grow h₃ h₄) h₃) ∧
      (∀ D h' (ys vs : List Value), LS h₀ L h' (put y (.ref D) l) c ps → LP h₁ h' → h'.IsList D ys.toArray → vs.length = n → (∀ j v, vs[j]? = some v → P j v) → Paired F (vs.filter p) ys → Q .next h')) h)
    (hcell : ∀ y ∈ scope.names, y.2 ≠ .cell := by decide) (hkind : scope.kind = .function := by rfl)
    (hnames : ∀ y ∈ scope.names, y.2 = .local → scope.names.lookup y.1 = some .local := by decide) (hx : scope.names.lookup x = some .local := by rfl)
    (hy : (lawE L).kindOf y = some .local := by rfl)
    (hs : ∀ x, foldedSetIterable iter (lawE L) x = Pure.pure x := by intro _; rfl) : W S w A (exec (.Assign [.Name y py] (.ListComp elt [⟨.Name x px, iter, ifs, 0⟩] scope pos) spos) (lawE L)) Q h := ⟨fun _ => by
  refine wpAny_Assign_ListComp_free p F hsw hclos hcell hkind hnames hx hy rfl (q.run fun xv h₁ tk₁ q₁ => ?_) hs
  obtain ⟨⟨fx, src⟩, hn, X, ht, he, hQ⟩ := q₁
  refine src.ok.run fun it h₂ tk₂ q₂ => ?_
  obtain ⟨Stt, o, rfl, rfl, Wk, h0, hfp⟩ := q₂
  have lo : ∀ {C : Nat} {v : Value} {s₃ : Shared} {m₃ : Str → Option Value}, (h₁.push o).objs.size ≤ C → s₃.heap.Ns C m₃ → m₃ x = some v → (∀ b o', b ∉ [h₁.objs.size] → (h₁.push o).get? b = some o' → s₃.heap.get? b = some o') → Lo h₁ C s₃.heap [(x, v)] :=
    fun hC hn hm hk => ⟨_, ⟨hn, grow_off hk, by rw [Heap.size_push] at hC; omega⟩, fun p hp => by rw [List.mem_singleton.mp hp]; exact hm⟩
  obtain ⟨m, Fm, em⟩ := id X.lo
  have hLlt := X.lo.lt
  refine ⟨_, h₁.objs.size :: fx, [h₁.objs.size], n, P, Stt, m, rfl, Wk, Nat.le_trans hn (by decide), h0, hfp, fun q => Nat.ne_of_lt hLlt (List.mem_singleton.mp q), (Grow.push _ _).ns Fm.ns, ⟨fun C i v s₃ m₃ E' hC hP hn hm hk _ => ?_, fun C i v s₃ m₃ E' hC hP hp hn hm hk _ => ?_⟩, fun D h' tk ys vs _ hl _ hlen hP hF hns hk => ⟨_, _, rfl, ?_⟩⟩
  · exact keeps_of (ht s₃ C i v s₃.heap (lo hC hn hm hk) hP)
  · exact keeps_of (he s₃ C i v s₃.heap (lo hC hn hm hk) hP hp)
  · have kp : ∀ b o', b ≠ L → h₁.get? b = some o' → h'.get? b = some o' := fun b o' hb e => hk b o' hb (fun q => Nat.ne_of_lt (Heap.lt_size e) (List.mem_singleton.mp q)) (Grow.push _ _ _ _ e)
    refine hQ D h' ys.toList vs ⟨⟨_, ⟨hns, fun b o' e => kp b o' (Nat.ne_of_lt (Nat.lt_of_lt_of_le (Heap.lt_size e) Fm.above)) (Fm.keep b o' e), Fm.above⟩, put_ok em⟩, X.lc.ext (b := L) (fun b o' hb e => kp b o' hb e) (fun n a hm => ?_), kp _ _ (Nat.ne_of_lt X.hL) X.tb, X.hL⟩ (fun b o' xs n e d => kp b o' (fun q => ?_) e) (by simpa using hl) hlen hP hF
    · obtain ⟨cm, Y, _⟩ := X.lc
      exact Nat.ne_of_gt (Y.above n a hm)
    · obtain ⟨oL, es, ep, eL, dL, _⟩ := Fm.ns
      rw [q, eL] at e; cases e; rw [dL] at d; cases d⟩
end
end Mine
open PySem PySem.W PyProof.Rows PySem.Calls
set_option Elab.async false
set_option maxRecDepth 100000
set_option maxHeartbeats 4000000
namespace Mine
def rdw (wl : List Int) (x o : List Nat) (i : Nat) : List Nat := reps (prs wl o i) x
def road (wl : List Int) (x o : List Nat) : List (List Nat) := (List.range 4).map (rdw wl x o)
abbrev c8 (text order reach ways new pairs miles road : Value) : List (Str × Value) := [("text", text), ("order", order), ("reach", reach), ("ways", ways), ("new", new), ("pairs", pairs), ("miles", miles), ("road", road)]
theorem prs_one (wl : List Int) (o : List Nat) (i : Nat) (hd : ∀ d ∈ o, d = 97 ∨ d = 98 ∨ d = 99) : ∀ p ∈ prs wl o i, p.2.length ≤ 1 := by
  intro p hp
  unfold prs at hp
  obtain ⟨d, hm, rfl⟩ := List.mem_map.mp hp
  have := hd d (List.mem_of_mem_take hm)
  exact nwL_one wl _ (List.mem_of_getElem? (nwL_get (wl := wl) (k := d - 97) (by omega)))
theorem range4_get {j : Nat} (hj : j < 4) : (List.range 4)[j]? = some j := by simp [hj]
section
variable {S : Shared} {w : World} {A : Around} {h h' h₀ : Heap} {env : Env} {L : Nat} {m mg mb : Str → Option Value} {l l' c c' : List (Str × Value)} {cs : List (Str × Nat)} {ps : Array Value}
theorem law_s10 {n wa na pa ma : Nat} {wl : List Int} {x o : List Nat} {tx to : Tok} {rv : Value} {Q : Flow → Heap → Prop} (G : Gl w mg mb h₀) (O : OkA n A) (hn : n ≤ 50) (hx : Tx x) (ho : o ∈ perms)
    (X : LS h₀ L h [] (c7 (.str (T x) tx) (.str (T o) to) rv (.ref wa) (.ref na) (.ref pa) (.ref ma)) ps) (B : Ls h wa na pa ma wl x o 3)
    (q : ∀ h' ra, LS h₀ L h' [] (c8 (.str (T x) tx) (.str (T o) to) rv (.ref wa) (.ref na) (.ref pa) (.ref ma) (.ref ra)) ps → LP h h' → SL h' ra (road wl x o) → Q .next h') : W S w A (exec (lawS 10) (lawE L)) Q h := by
  obtain ⟨ho3, hod⟩ := perm_mem ho
  have G₀ := X.gl G
  have ct : h.IsCell (L + 10) (some (.str (T x) tx)) := X.lc.get (x := "text") rfl rfl
  have cp : h.IsCell (L + 4) (some (.ref pa)) := X.lc.get (x := "pairs") rfl rfl
  refine rAsgN (rLC 4 (fun i v => i < 4 ∧ ∃ t, v = .int (i : Int) t) (fun _ => true) (fun v y => ∃ (k : Nat) (u u' : Tok), v = .int (k : Int) u ∧ y = .str (T (rdw wl x o k)) u') rfl ?_)
  refine rCallN (rBlt G₀ G.fr.2.1 boot_range (rCT (rItC (rInt fun _ => rItN (rRange1 fun h₁ rr x1 x2 x3 g₁ hrg => ?_)))))
  refine ⟨⟨_, Src.range (n := 4) O.hd hrg (by omega)⟩, by omega, fun S' C i v h₃ F₃ hv => rT0 ⟨rfl, Grow.refl _⟩, ?_, ?_⟩
  · rintro S' C i v h₃ F₃ ⟨hi, u, rfl⟩ _
    have G₃ := G₀.grow (g₁.trans F₃.keep)
    have gg := g₁.trans F₃.keep
    obtain ⟨vp, xp, yp⟩ := id B.p
    have lp : vp.length ≤ 6 := by
      have := prs_len wl o 3
      rw [yp.len_eq, List.length_map, flat_len]; omega
    refine rCallN (rGlob G₃ (gRep w) (rCS2 G₃.k (by kernel_rfl) (rItC (rCell (gg.cell ct) (rStarL (rSlL (rCell (gg.cell cp) (rPN (rPS (rBin (rInt fun _ => rL F₃ rfl (rMul (mulOk (by omega) (by omega)) fun tm => ?_)))))))))))) 
    refine ⟨pa, vp, none, some ((2 * i : Nat) : Int), rfl, (plain_grow xp gg).isList, by omega, .none, ?_, fun b h₄ g₄ x₄ => ?_⟩
    · have : (2 : Int) * (i : Int) = ((2 * i : Nat) : Int) := by omega
      rw [this]; exact .int _ _
    rw [pick_upto] at x₄
    refine ⟨b, _, rfl, x₄.isList, by simp; omega, fun h₅ g₅ => rItN ⟨(G₃.grow (g₄.trans g₅)).k, ?_⟩⟩
    rw [List.append_nil]
    have sv : StrsAre (vp.take (2 * i)) ((flat (prs wl o i)).map T) := by
      have := strsAre_take yp (2 * i)
      rw [← List.map_take, flat_take, prs_take (by omega)] at this
      exact this
    have := hx.2
    refine rep_call (G₃.grow (g₄.trans g₅)) O (by omega) (by omega) (by have := prs_len wl o i; omega) (prs_one wl o i hod) sv fun h₆ t6 g₆ => ?_
    exact ⟨⟨i, u, t6, rfl, rfl⟩, (g₄.trans g₅).trans g₆⟩
  · intro D h' zs us g hD hlen hP hF
    rw [filter_tt] at hF
    have hp := paired_map (xs := List.range 4) (V := fun (d : Nat) v => ∃ u, v = Value.int (d : Int) u) (U := fun s y => ∃ t, y = Value.str (T s) t) (g := rdw wl x o) (fun x v y _ ⟨u, e⟩ ⟨d, u1, u2, e1, e2⟩ => by
      rw [e] at e1
      injection e1 with e1 _
      have : x = d := by omega
      subst this; exact ⟨u2, e2⟩) (by rw [hlen]; rfl) (fun j v hj => by
        obtain ⟨hj3, t, e⟩ := hP j v hj
        exact ⟨j, range4_get hj3, t, e⟩) hF
    exact rSC (X.grow (g₁.trans g)) fun h₅ X₅ p₅ => q h₅ D X₅ ((LP.of_grow (g₁.trans g)).trans p₅) ⟨zs, p₅.lst hD, strs_of_paired hp⟩
theorem law_s11 {n wa na pa ma ra : Nat} {wl : List Int} {x o : List Nat} {tx to : Tok} {rv : Value} {Q : Flow → Heap → Prop} (G : Gl w mg mb h₀) (O : OkA n A) (hn : n ≤ 50) (hx : Tx x) (ho : o ∈ perms)
    (X : LS h₀ L h [] (c8 (.str (T x) tx) (.str (T o) to) rv (.ref wa) (.ref na) (.ref pa) (.ref ma) (.ref ra)) ps) (B : Ls h wa na pa ma wl x o 3) (hr : SL h ra (road wl x o))
    (M1 : ∀ k, k < 4 → x.flatMap (wd (nwL wl) (o.take k)) = rdw wl x o k) (M4 : ∀ z ∈ road wl x o, ∀ d ∈ z, d < 128)
    (q : ∀ h', Grow h h' → Q .next h') : W S w A (exec (lawS 11) (lawE L)) Q h := by
  obtain ⟨ho3, hod⟩ := perm_mem ho
  have G₀ := X.gl G
  have ct : h.IsCell (L + 10) (some (.str (T x) tx)) := X.lc.get (x := "text") rfl rfl
  have co : h.IsCell (L + 1) (some (.str (T o) to)) := X.lc.get (x := "order") rfl rfl
  have cn : h.IsCell (L + 3) (some (.ref na)) := X.lc.get (x := "new") rfl rfl
  refine rIf (rTCmp (rLc X rfl (rLC 4 (fun i v => i < 4 ∧ ∃ t, v = .int (i : Int) t) (fun _ => true) (fun v y => ∃ (k : Nat) (u u' : Tok), v = .int (k : Int) u ∧ y = .str (T (rdw wl x o k)) u') rfl ?_)))
  refine rCallN (rBlt G₀ G.fr.2.1 boot_range (rCT (rItC (rInt fun _ => rItN (rRange1 fun h₁ rr x1 x2 x3 g₁ hrg => ?_)))))
  refine ⟨⟨_, Src.range (n := 4) O.hd hrg (by omega)⟩, by omega, fun S' C i v h₃ F₃ hv => rT0 ⟨rfl, Grow.refl _⟩, ?_, ?_⟩
  · rintro S' C i v h₃ F₃ ⟨hi, u, rfl⟩ _
    have gg := g₁.trans F₃.keep
    have G₃ := G₀.grow gg
    refine rCallN (rGlob G₃ (gWord w) (rCF (G₃.fn (look_wrd w)) (rItC (rCell (gg.cell ct) (rItC (rSlS (rCell (gg.cell co) (rPN (rPS (rL F₃ rfl ?_)))))))))) 
    refine ⟨T o, to, none, some ((i : Int), u), rfl, rfl, rfl, by rw [T_length]; omega, fun t4 h₄ g₄ => rItC (rCell (g₄.cell (gg.cell cn)) (rItN ⟨(G₃.grow g₄).fn (look_wrd w), ?_⟩))⟩
    have e : Txt.slice (T o) (Option.map (fun x : Int × Tok => x.1) none) (Option.map (fun x : Int × Tok => x.1) (some ((i : Int), u))) = T (o.take i) := slice_to (show (0 : Int) ≤ (i : Int) by omega) (show (i : Int) ≤ (o.length : Int) by omega)
    rw [e]
    have := hx.2
    refine word_call (G₃.grow g₄) O (by omega) (by omega) (fun d hd => hod d (List.mem_of_mem_take hd)) ((B.n.grow gg).grow g₄) rfl (nwL_one wl) fun h₆ t6 g₆ => ?_
    exact ⟨⟨i, u, t6, rfl, by rw [M1 i hi]⟩, g₄.trans g₆⟩
  · intro D h' zs us g hD hlen hP hF
    rw [filter_tt] at hF
    have hp := paired_map (xs := List.range 4) (V := fun (d : Nat) v => ∃ u, v = Value.int (d : Int) u) (U := fun s y => ∃ t, y = Value.str (T s) t) (g := rdw wl x o) (fun x v y _ ⟨u, e⟩ ⟨d, u1, u2, e1, e2⟩ => by
      rw [e] at e1
      injection e1 with e1 _
      have : x = d := by omega
      subst this; exact ⟨u2, e2⟩) (by rw [hlen]; rfl) (fun j v hj => by
        obtain ⟨hj3, t, e⟩ := hP j v hj
        exact ⟨j, range4_get hj3, t, e⟩) hF
    have sD : SL h' D (road wl x o) := ⟨zs, hD, strs_of_paired hp⟩
    refine rNeSame O (by omega) (hr.grow (g₁.trans g)).reads sD.reads (shaped_strs M4) (rTBool ⟨nofun, fun _ => rNil (q h' (g₁.trans g))⟩)
end
end Mine
open PySem PySem.W PyProof.Rows PySem.Calls
set_option Elab.async false
set_option maxRecDepth 100000
set_option maxHeartbeats 4000000
namespace Mine
/-- the plain facts of the road -/
structure Pl (wl : List Int) (x o : List Nat) : Prop where
  wrd : ∀ k, k < 4 → x.flatMap (wd (nwL wl) (o.take k)) = rdw wl x o k
  cod : ∀ z ∈ road wl x o, ∀ d ∈ z, d < 128
  len : ∀ i, i < 4 → (rdw wl x o i).length ≤ 7
  dst : ∀ i j, i ≤ j → j < 4 → ((D csc (rdw wl x o i) (rdw wl x o j) : Nat) : Int) = mil wl x o j - mil wl x o i
  mon : ∀ i j, i ≤ j → j < 4 → mil wl x o i ≤ mil wl x o j
  top : mil wl x o 3 ≤ 14
  shf : D csc (rdw wl x o 3 ++ [33]) (63 :: rdw wl x o 3) = if rdw wl x o 3 = [] then 2 else 4
theorem Pl.dst' {wl : List Int} {x o : List Nat} (P : Pl wl x o) (i j : Nat) (h : i ≤ j) (hj : j < 4) : ((D csc (rdw wl x o j) (rdw wl x o i) : Nat) : Int) = mil wl x o j - mil wl x o i := by
  rw [D_comm csc csc_symm]; exact P.dst i j h hj
theorem Pl.nn {wl : List Int} {x o : List Nat} (P : Pl wl x o) (i : Nat) (h : i < 4) : 0 ≤ mil wl x o i ∧ mil wl x o i ≤ 14 :=
  ⟨P.mon 0 i (by omega) h, Int.le_trans (P.mon i 3 (by omega) (by omega)) P.top⟩
theorem lev_is {a b : List Nat} {mc r : Int} (h : LevOk csc a b mc r) (hd : ((D csc a b : Nat) : Int) ≤ mc) : r = ((D csc a b : Nat) : Int) := by
  rcases h with h | ⟨_, h⟩
  · exact h
  · omega
theorem road_get {wl : List Int} {x o : List Nat} {i : Nat} (h : i < 4) : (road wl x o)[i]? = some (rdw wl x o i) := by unfold road; simp [h]
theorem road_len (wl : List Int) (x o : List Nat) : (road wl x o).length = 4 := by unfold road; simp
theorem mls_get {wl : List Int} {x o : List Nat} {i : Nat} (h : i < 4) : (mls wl x o 3)[i]? = some (mil wl x o i) := by unfold mls; simp [h]
theorem mls_len (wl : List Int) (x o : List Nat) : (mls wl x o 3).length = 4 := by unfold mls; simp
theorem mem_road {wl : List Int} {x o : List Nat} {z : List Nat} (h : z ∈ road wl x o) : ∃ i, i < 4 ∧ z = rdw wl x o i := by
  unfold road at h
  obtain ⟨i, hi, rfl⟩ := List.mem_map.mp h
  exact ⟨i, by simpa using hi, rfl⟩
section
variable {S : Shared} {w : World} {A : Around} {h h' h₀ : Heap} {env : Env} {L : Nat} {m mg mb : Str → Option Value} {l l' c c' : List (Str × Value)} {cs : List (Str × Nat)} {ps : Array Value}
theorem Src.sl {la : Nat} {xs : List (List Nat)} (hh : A.handled = none) (hl : SL h la xs) : Src S w A h (.ref la) [la] xs.length (fun i v => ∃ x t, xs[i]? = some x ∧ v = .str (T x) t) := by
  obtain ⟨vs, x, y⟩ := hl
  have e : vs.length = xs.length := by rw [y.len_eq, List.length_map]
  have s := Src.list (S := S) (w := w) hh x
  rw [e] at s
  refine ⟨s.ok.mono fun it h₂ ⟨Stt, o, e1, e2, Wk, r⟩ => ⟨Stt, o, e1, e2, ⟨Wk.sub, Wk.frame, fun i s Q E hi hst hQ => Wk.item i s Q E hi hst fun v h' tk hP => hQ v h' tk ?_, Wk.done, Wk.self⟩, r⟩⟩
  obtain ⟨y1, t1, rfl, hy⟩ := y.item i v hP
  rw [List.getElem?_map] at hy
  cases hx : xs[i]? with
  | none => rw [hx] at hy; cases hy
  | some x1 => rw [hx] at hy; cases hy; exact ⟨x1, t1, rfl, rfl⟩
theorem Src.il {la : Nat} {ns : List Int} (hh : A.handled = none) (hl : IL h la ns) : Src S w A h (.ref la) [la] ns.length (fun i v => ∃ k t, ns[i]? = some k ∧ v = .int k t) := by
  obtain ⟨vs, x, y⟩ := hl
  have e : vs.length = ns.length := intsAre_len y
  have s := Src.list (S := S) (w := w) hh x
  rw [e] at s
  refine ⟨s.ok.mono fun it h₂ ⟨Stt, o, e1, e2, Wk, r⟩ => ⟨Stt, o, e1, e2, ⟨Wk.sub, Wk.frame, fun i s Q E hi hst hQ => Wk.item i s Q E hi hst fun v h' tk hP => hQ v h' tk ?_, Wk.done, Wk.self⟩, r⟩⟩
  obtain ⟨k, t, a, b⟩ := y.at i v hP
  exact ⟨k, t, b, a⟩
theorem law_s12 {n wa na pa ma ra : Nat} {wl : List Int} {x o : List Nat} {tx to : Tok} {rv : Value} {Q : Flow → Heap → Prop} (G : Gl w mg mb h₀) (O : OkA n A) (hn : n ≤ 50) (P : Pl wl x o)
    (X : LS h₀ L h [] (c8 (.str (T x) tx) (.str (T o) to) rv (.ref wa) (.ref na) (.ref pa) (.ref ma) (.ref ra)) ps) (hr : SL h ra (road wl x o))
    (q : ∀ h' aa, LS h₀ L h' [("ahead", .ref aa)] (c8 (.str (T x) tx) (.str (T o) to) rv (.ref wa) (.ref na) (.ref pa) (.ref ma) (.ref ra)) ps → LP h h' → IL h' aa (mls wl x o 3) → Q .next h') : W S w A (exec (lawS 12) (lawE L)) Q h := by
  have G₀ := X.gl G
  have ct : h.IsCell (L + 10) (some (.str (T x) tx)) := X.lc.get (x := "text") rfl rfl
  refine rLCA 4 (fun i v => ∃ z t, (road wl x o)[i]? = some z ∧ v = .str (T z) t) (fun _ => true) (fun v y => ∃ (z : List Nat) (r : Int) (u u' : Tok), v = .str (T z) u ∧ y = .int r u' ∧ LevOk csc x z 40 r) rfl rfl (rLc X rfl ⟨⟨_, Src.sl O.hd hr⟩, by omega, X, fun S' C i v h₃ F₃ hv => rT0 ⟨rfl, Grow.refl _⟩, ?_, ?_⟩)
  · rintro S' C i v h₃ F₃ ⟨z, u, hz, rfl⟩ _
    have G₃ := G₀.grow F₃.keep
    obtain ⟨j, hj, rfl⟩ := mem_road (List.mem_of_getElem? hz)
    have l0 := P.len 0 (by omega)
    have l1 := P.len j hj
    refine rCallN (rGlob G₃ (gLev w) (rCF (G₃.fn (look_lev w)) (rItC (rCell (F₃.keep.cell ct) (rItC (rL F₃ rfl (rItC (rInt fun _ => rItN ⟨G₃.fn (look_lev w), lev_call G₃ O (by omega) (show (rdw wl x o 0).length ≤ 40 by omega) (by omega) fun h₄ r t4 g₄ hlv => ?_⟩))))))))
    exact ⟨⟨_, r, u, t4, rfl, rfl, hlv⟩, g₄⟩
  · intro D h' zs us X' p' hD hlen hP hF
    rw [filter_tt] at hF
    have hp := paired_map (xs := road wl x o) (V := fun z v => ∃ u, v = Value.str (T z) u) (U := fun s y => ∃ t, y = Value.int s t) (g := fun z => ((Mine.D csc x z : Nat) : Int)) (fun z v y hz ⟨u, e⟩ ⟨z', r, u1, u2, e1, e2, e3⟩ => by
      rw [e] at e1
      injection e1 with e1 _
      have e1 := T_inj.mp e1
      subst e1
      obtain ⟨j, hj, rfl⟩ := mem_road hz
      have hd := P.dst 0 j (by omega) hj
      have := P.nn j hj
      have := P.nn 0 (by omega)
      exact ⟨u2, by rw [e2, lev_is e3 (by show ((Mine.D csc (rdw wl x o 0) _ : Nat) : Int) ≤ 40; omega)]⟩) (by rw [hlen, road_len]) (fun j v hj => by
        obtain ⟨z, t, a, b⟩ := hP j v hj
        exact ⟨z, a, t, b⟩) hF
    have e : (road wl x o).map (fun z => ((Mine.D csc x z : Nat) : Int)) = mls wl x o 3 := by
      unfold road mls
      rw [List.map_map]
      refine List.map_congr_left fun j hj => ?_
      have hd := P.dst 0 j (by omega) (by simpa using hj)
      show ((Mine.D csc (rdw wl x o 0) (rdw wl x o j) : Nat) : Int) = _
      rw [hd]; show mil wl x o j - 0 = _; omega
    have I := ints_of_paired hp
    rw [e] at I
    exact q h' D X' p' ⟨zs, hD, I⟩
theorem law_s13 {n wa na pa ma ra aa : Nat} {wl : List Int} {x o : List Nat} {tx to : Tok} {rv : Value} {Q : Flow → Heap → Prop} (G : Gl w mg mb h₀) (O : OkA n A) (hn : n ≤ 50) (P : Pl wl x o)
    (X : LS h₀ L h [("ahead", .ref aa)] (c8 (.str (T x) tx) (.str (T o) to) rv (.ref wa) (.ref na) (.ref pa) (.ref ma) (.ref ra)) ps) (hr : SL h ra (road wl x o))
    (q : ∀ h' ba, LS h₀ L h' [("ahead", .ref aa), ("back", .ref ba)] (c8 (.str (T x) tx) (.str (T o) to) rv (.ref wa) (.ref na) (.ref pa) (.ref ma) (.ref ra)) ps → LP h h' → IL h' ba ((mls wl x o 3).map fun v => mil wl x o 3 - v) → Q .next h') : W S w A (exec (lawS 13) (lawE L)) Q h := by
  have G₀ := X.gl G
  have cr : h.IsCell (L + 9) (some (.ref ra)) := X.lc.get (x := "road") rfl rfl
  refine rLCA 4 (fun i v => ∃ z t, (road wl x o)[i]? = some z ∧ v = .str (T z) t) (fun _ => true) (fun v y => ∃ (z : List Nat) (r : Int) (u u' : Tok), v = .str (T z) u ∧ y = .int r u' ∧ LevOk csc (rdw wl x o 3) z 40 r) rfl rfl (rLc X rfl ⟨⟨_, Src.sl O.hd hr⟩, by omega, X, fun S' C i v h₃ F₃ hv => rT0 ⟨rfl, Grow.refl _⟩, ?_, ?_⟩)
  · rintro S' C i v h₃ F₃ ⟨z, u, hz, rfl⟩ _
    have G₃ := G₀.grow F₃.keep
    obtain ⟨j, hj, rfl⟩ := mem_road (List.mem_of_getElem? hz)
    have l0 := P.len 3 (by omega)
    have l1 := P.len j hj
    refine rCallN (rGlob G₃ (gLev w) (rCF (G₃.fn (look_lev w)) (rItC (rSub (rCell (F₃.keep.cell cr) (rInt fun _ => rGetSL (k := 3) (hr.grow F₃.keep) (by omega) (road_get (by omega)) (fun t3 => rItC (rL F₃ rfl (rItC (rInt fun _ => rItN ⟨G₃.fn (look_lev w), lev_call G₃ O (by omega) (by omega) (by omega) fun h₄ r t4 g₄ hlv => ?_⟩)))) sbConst))))))
    exact ⟨⟨_, r, u, t4, rfl, rfl, hlv⟩, g₄⟩
  · intro D h' zs us X' p' hD hlen hP hF
    rw [filter_tt] at hF
    have hp := paired_map (xs := road wl x o) (V := fun z v => ∃ u, v = Value.str (T z) u) (U := fun s y => ∃ t, y = Value.int s t) (g := fun z => ((Mine.D csc (rdw wl x o 3) z : Nat) : Int)) (fun z v y hz ⟨u, e⟩ ⟨z', r, u1, u2, e1, e2, e3⟩ => by
      rw [e] at e1
      injection e1 with e1 _
      have e1 := T_inj.mp e1
      subst e1
      obtain ⟨j, hj, rfl⟩ := mem_road hz
      have hd := P.dst' j 3 (by omega) (by omega)
      have := P.nn j hj
      have := P.nn 3 (by omega)
      exact ⟨u2, by rw [e2, lev_is e3 (by omega)]⟩) (by rw [hlen, road_len]) (fun j v hj => by
        obtain ⟨z, t, a, b⟩ := hP j v hj
        exact ⟨z, a, t, b⟩) hF
    have e : (road wl x o).map (fun z => ((Mine.D csc (rdw wl x o 3) z : Nat) : Int)) = (mls wl x o 3).map fun v => mil wl x o 3 - v := by
      unfold road mls
      rw [List.map_map, List.map_map]
      refine List.map_congr_left fun j hj => ?_
      have hj4 : j < 4 := by simpa using hj
      exact P.dst' j 3 (by omega) (by omega)
    have I := ints_of_paired hp
    rw [e] at I
    exact q h' D X' p' ⟨zs, hD, I⟩
end
end Mine
open PySem PySem.W PyProof.Rows PySem.Calls
set_option Elab.async false
set_option maxRecDepth 100000
set_option maxHeartbeats 4000000
namespace Mine
section
variable {S : Shared} {w : World} {A : Around} {h h' h₀ : Heap} {env : Env} {L : Nat} {m mg mb : Str → Option Value} {l l' c c' : List (Str × Value)} {cs : List (Str × Nat)} {ps : Array Value}
theorem law_s14 {n wa na pa ma ra aa ba : Nat} {wl : List Int} {x o : List Nat} {tx to : Tok} {rv : Value} {Q : Flow → Heap → Prop} (O : OkA n A) (hn : n ≤ 50)
    (X : LS h₀ L h [("ahead", .ref aa), ("back", .ref ba)] (c8 (.str (T x) tx) (.str (T o) to) rv (.ref wa) (.ref na) (.ref pa) (.ref ma) (.ref ra)) ps)
    (hm : IL h ma (mls wl x o 3)) (ha : IL h aa (mls wl x o 3)) (hb : IL h ba ((mls wl x o 3).map fun v => mil wl x o 3 - v))
    (q : ∀ h', Grow h h' → Q .next h') : W S w A (exec (lawS 14) (lawE L)) Q h := by
  have cm : h.IsCell (L + 5) (some (.ref ma)) := X.lc.get (x := "miles") rfl rfl
  refine rIf (rTBop (rOrC (rTCmp (rLl X rfl (rLc X rfl (rNeSame O (by omega) ha.reads hm.reads shaped_ints (rTBool ⟨nofun, fun _ => rOrC (rTCmp (rLl X rfl ?_))⟩))))))) 
  refine rLC 4 (fun i v => ∃ k t, (mls wl x o 3)[i]? = some k ∧ v = .int k t) (fun _ => true) (fun v y => ∃ (k : Int) (u u' : Tok), v = .int k u ∧ y = .int (mil wl x o 3 - k) u') rfl (rLc X rfl ⟨⟨_, Src.il O.hd hm⟩, by omega, fun S' C i v h₃ F₃ hv => rT0 ⟨rfl, Grow.refl _⟩, ?_, ?_⟩)
  · rintro S' C i v h₃ F₃ ⟨k, u, hk, rfl⟩ _
    refine rBin (rSub (rCell (F₃.keep.cell cm) (rInt fun _ => rGetIL (k := 3) (hm.grow F₃.keep) (by omega) (mls_get (by omega)) (fun t3 => rL F₃ rfl (rSubI fun t4 => ⟨⟨k, u, t4, rfl, rfl⟩, Grow.refl _⟩)) sbConst)))
  · intro D h' zs us g hD hlen hP hF
    rw [filter_tt] at hF
    have hp := paired_map (xs := mls wl x o 3) (V := fun z v => ∃ u, v = Value.int z u) (U := fun s y => ∃ t, y = Value.int s t) (g := fun z => mil wl x o 3 - z) (fun z v y hz ⟨u, e⟩ ⟨z', u1, u2, e1, e2⟩ => by
      rw [e] at e1
      injection e1 with e1 _
      subst e1
      exact ⟨u2, e2⟩) (by rw [hlen, mls_len]) (fun j v hj => by
        obtain ⟨z, t, a, b⟩ := hP j v hj
        exact ⟨z, a, t, b⟩) hF
    have iD : IL h' D ((mls wl x o 3).map fun z => mil wl x o 3 - z) := ⟨zs, hD, ints_of_paired hp⟩
    exact rNeSame O (by omega) (hb.grow g).reads iD.reads shaped_ints (rTBool ⟨nofun, fun _ => rOrN ⟨nofun, fun _ => rNil (q h' g)⟩⟩)
theorem law_s15 {n wa na pa ma ra : Nat} {wl : List Int} {x o : List Nat} {tx to : Tok} {rv : Value} {Q : Flow → Heap → Prop} (G : Gl w mg mb h₀) (O : OkA n A) (hn : n ≤ 50) (P : Pl wl x o)
    (X : LS h₀ L h l (c8 (.str (T x) tx) (.str (T o) to) rv (.ref wa) (.ref na) (.ref pa) (.ref ma) (.ref ra)) ps)
    (hm : IL h ma (mls wl x o 3)) (hr : SL h ra (road wl x o))
    (q : ∀ h', Grow h h' → Q .next h') : W S w A (exec (lawS 15) (lawE L)) Q h := by
  have G₀ := X.gl G
  have l1 := P.len 1 (by omega)
  have l2 := P.len 2 (by omega)
  refine rIf (rTCmp (rCallN (rGlob G₀ (gLev w) (rCF (G₀.fn (look_lev w)) (rItC (rSub (rLc X rfl (rInt fun _ => rGetSL (k := 1) hr (by omega) (road_get (by omega)) (fun t1 => rItC (rSub (rLc X rfl (rInt fun _ => rGetSL (k := 2) hr (by omega) (road_get (by omega)) (fun t2 => rItC (rInt fun _ => rItN ⟨G₀.fn (look_lev w), lev_call G₀ O (by omega) (by omega) (by omega) fun h₁ r t4 g₁ hlv => ?_⟩)) sbConst)))) sbConst))))))))
  have hd := P.dst 1 2 (by omega) (by omega)
  have n1 := P.nn 1 (by omega)
  have n2 := P.nn 2 (by omega)
  have er := lev_is hlv (by omega)
  have X₁ := X.grow g₁
  have hm₁ := hm.grow g₁
  refine rBin (rSub (rLc X₁ rfl (rInt fun _ => rGetIL (k := 2) hm₁ (by omega) (mls_get (by omega)) (fun t5 => rSub (rLc X₁ rfl (rInt fun _ => rGetIL (k := 1) hm₁ (by omega) (mls_get (by omega)) (fun t6 => rSubI fun t7 => rNeI (rTBool ?_)) sbConst))) sbConst)))
  rw [er, hd]
  exact ⟨fun e => by simp at e, fun _ => rNil (q h₁ g₁)⟩
theorem ofS_nil : Str.ofString "" = T [] := ofS_empty
theorem law_s16 {n wa na pa ma ra : Nat} {wl : List Int} {x o : List Nat} {tx to : Tok} {rv : Value} {Q : Flow → Heap → Prop} (G : Gl w mg mb h₀) (O : OkA n A) (hn : n ≤ 50) (P : Pl wl x o)
    (X : LS h₀ L h l (c8 (.str (T x) tx) (.str (T o) to) rv (.ref wa) (.ref na) (.ref pa) (.ref ma) (.ref ra)) ps) (hr : SL h ra (road wl x o))
    (q : ∀ h' tk, LS h₀ L h' (put "shifted" (.int (if rdw wl x o 3 = [] then 2 else 4) tk) l) (c8 (.str (T x) tx) (.str (T o) to) rv (.ref wa) (.ref na) (.ref pa) (.ref ma) (.ref ra)) ps → LP h h' → Q .next h') : W S w A (exec (lawS 16) (lawE L)) Q h := by
  have G₀ := X.gl G
  have l3 := P.len 3 (by omega)
  refine rAsgN (rCallN (rGlob G₀ (gLev w) (rCF (G₀.fn (look_lev w)) (rItC (rBin (rSub (rLc X rfl (rInt fun _ => rGetSL (k := 3) hr (by omega) (road_get (by omega)) (fun t1 => rStr fun t2 => ?_) sbConst))))))))
  rw [ofS_bang]
  refine rAddS (by simp; omega) fun t3 => rItC (rBin (rStr fun t4 => rSub (rLc X rfl (rInt fun _ => rGetSL (k := 3) hr (by omega) (road_get (by omega)) (fun t5 => ?_) sbConst))))
  rw [ofS_quest]
  refine rAddS (by simp; omega) fun t6 => rItC (rInt fun _ => rItN ⟨G₀.fn (look_lev w), lev_call G₀ O (by omega) (by simp; omega) (by simp; omega) fun h₁ r t7 g₁ hlv => ?_⟩)
  have e : r = if rdw wl x o 3 = [] then 2 else 4 := by
    have hs := P.shf
    have := lev_is hlv (by rw [List.singleton_append, hs]; split <;> decide)
    rw [this, List.singleton_append, hs]
    split <;> rfl
  rw [e]
  exact rSL (X.grow g₁) fun h₂ X₂ p₂ => q h₂ t7 X₂ ((LP.of_grow g₁).trans p₂)
theorem law_s17 {n wa na pa ma ra : Nat} {wl : List Int} {x o : List Nat} {tx to tk : Tok} {rv : Value} {Q : Flow → Heap → Prop} (P : Pl wl x o)
    (X : LS h₀ L h l (c8 (.str (T x) tx) (.str (T o) to) rv (.ref wa) (.ref na) (.ref pa) (.ref ma) (.ref ra)) ps) (hr : SL h ra (road wl x o)) (hl : l.lookup (Str.ofString "shifted") = some (.int (if rdw wl x o 3 = [] then 2 else 4) tk))
    (q : Q .next h) : W S w A (exec (lawS 17) (lawE L)) Q h := by
  refine rIf (rTCmp (rLl X hl (rIfE (rTCmp (rSub (rLc X rfl (rInt fun _ => rGetSL (k := 3) hr (by omega) (road_get (by omega)) (fun t1 => rStr fun t2 => ?_) sbConst)))))))
  rw [ofS_empty]
  refine rNeStr (rTBool ?_)
  rw [T_bne]
  by_cases he : rdw wl x o 3 = []
  · rw [he]
    exact ⟨fun e => by simp at e, fun _ => rInt fun _ => rNeI (rTBool ⟨fun e => by simp at e, fun _ => rNil q⟩)⟩
  · rw [if_neg he]
    exact ⟨fun _ => rInt fun _ => rNeI (rTBool ⟨fun e => by simp at e, fun _ => rNil q⟩), fun e => absurd (by simpa using e) he⟩
end
end Mine
open PySem PySem.W PyProof.Rows PySem.Calls
set_option Elab.async false
set_option maxRecDepth 100000
set_option maxHeartbeats 4000000
namespace Mine
/-- what the law's lambdas need of the base -/
structure Lm (h₀ : Heap) (mg : Str → Option Value) : Prop where
  code : CodeHd h₀ 69 67
  bm : h₀.BuiltinsAt mg 67
  no : h₀.get? 67 = none
section
variable {S : Shared} {w : World} {A : Around} {h h' h₀ : Heap} {env : Env} {L : Nat} {m mg mb : Str → Option Value} {l l' c c' : List (Str × Value)} {cs : List (Str × Nat)} {ps : Array Value}
theorem CodeRec.grow {v : Value} {x : Str} (X : h.CodeRec v x) (g : Grow h h') : h'.CodeRec v x := let ⟨c, oc, vs, tq, hc, hoc, r⟩ := X; ⟨c, oc, vs, tq, hc, g _ _ hoc, r⟩
theorem LS.tab {ps' : Array Value} (X : LS h₀ L h l c ps) (Z : h₀.get? 67 = none) (e : Heap.ExtBut 67 h h') (t : h'.get? 67 = some (tabObj ps')) : LS h₀ L h' l c ps' := by
  have hL := X.hL
  refine ⟨?_, ?_, t, hL⟩
  · obtain ⟨m, F, em⟩ := X.lo
    exact ⟨m, ⟨F.ns.extBut e (Nat.ne_of_gt hL), fun b o q => e b o (fun r => by rw [r, Z] at q; cases q) (F.keep b o q), F.above⟩, em⟩
  · exact X.lc.ext e fun n a hm => by
      obtain ⟨cm, Y, _⟩ := X.lc
      have := Y.above n a hm
      exact Nat.ne_of_gt (Nat.lt_trans hL this)
theorem LP.tab (X : LS h₀ L h l c ps) (e : Heap.ExtBut 67 h h') : LP h h' := fun b o xs n q d => e b o (fun r => by rw [r, X.tb] at q; cases q; cases d) q
theorem rLambda {params : Arguments} {body : Expr} {scope : Scope} {pos : Pos} {clos : List (Str × Nat)} {Q : Value → Heap → Prop} (X : LS h₀ L h l c ps) (G : Gl w mg mb h₀) (Z : Lm h₀ mg) (ht : TriplesOk ps.toList) (hnf : codeAmong pos ps.toList = none)
    (hcl : closureFor scope (lawE L) = Pure.pure clos)
    (q : ∀ (f c' : Nat) (ctv : Value) (h' : Heap), LS h₀ L h' l c (ps ++ #[rawInt pos.line, rawInt pos.col, .ref c']) → LP h h' →
      h'.get? f = some (kla_obj "<lambda>" ((lawE L).qual ++ "<lambda>") params body scope clos ((mg "__name__").getD .none) c' ctv) → h'.CodeRec (.ref c') ((lawE L).qual ++ "<lambda>") → Q (.ref f) h')
    (hdef : defaultsOf params (lawE L) = ([], []) := by rfl) : W S w A (eval (.Lambda params body scope pos) (lawE L)) Q h := ⟨fun _ => by
  have G₁ := X.gl G
  have k := X.lo.keep
  obtain ⟨bm, ob, b1, b2, b3, b4, b5, b6⟩ := Z.bm
  refine kla_eval hdef (kla_makeFunction (mg := mg) (c := 69) (P := 67) hcl rfl G₁.g rfl (Z.code.keeps k) X.tb ht hnf (by decide) ⟨bm, ob, b1, b2, b3, b4, k _ _ b5, b6⟩ fun c' ctv h' tk hx hge hlt hrec htb => ⟨_, _, rfl, ?_⟩)
  have X' := X.tab Z.no hx htb
  exact q h'.objs.size c' ctv _ (X'.grow (Grow.push _ _)) ((LP.tab X hx).trans (LP.of_grow (Grow.push _ _))) (Heap.get?_push_size _ rfl) (CodeRec.grow hrec (Grow.push _ _))⟩
/-- the call of a lambda -/
theorem rCallL {a : Nat} {fd : FuncData} {body : Expr} {args : List Value} {binds : List (Str × Value)} {Q : Value → Heap → Prop} {n : Nat}
    (G : Gl w mg mb h) (O : OkA n A) (ho : h.get? a = some { cls := .type "function", data := .func fd }) (hc : h.CodeRec fd.code fd.qualname)
    (hb : fd.body = .expr body) (hbind : bindArgs fd ⟨args, []⟩ = Pure.pure binds) (hcell : ∀ x ∈ fd.scope.names, x.2 ≠ .cell) (hloc : ∀ x ∈ binds, fd.scope.names.lookup x.1 = some .local)
    (q : ∀ h₁, Fr h h.objs.size h₁ (fun x => binds.reverse.lookup x) → W S w (A.deeper (callEnv fd h.objs.size a)) (eval body (callEnv fd h.objs.size a)) Q h₁)
    (hn : n ≤ 100) (hco : fd.scope.isCoroutine = false) (hgen : fd.scope.isGenerator = false) (hk : fd.scope.kind = .function) :
    W S w A (call (.ref a) args) Q h := ⟨fun tk => by
  refine wpAny_call (kla_callFunE (O.room hn) ho rfl hco hgen hb hc ?_)
  rw [hbind]
  refine wpAny_pure (wpAny_newFunctionEnv hcell hloc (fun h₁ hns hsb => ?_) hk)
  have hk₁ : Grow h h₁ := fun b o e => hsb.extBut b o (Nat.ne_of_lt (Heap.lt_size e)) (Heap.get?_push_of_some _ e)
  refine ⟨G.nl.keeps hk₁, kla_codeExpr ((q h₁ ⟨hns, hk₁, Nat.le_refl _⟩).run fun v h' tk' q' => ⟨_, _, rfl, q'⟩)⟩⟩
theorem rCallK {x : Str} {np pos p : Pos} {args : List Expr} {e value : Expr} {name : Str} {a : Nat} {o : Obj} {fd : FuncData} {Q : Value → Heap → Prop} (hdat : o.data = .func fd)
    (q : W S w A (eval (.Name x np) env) (fun f h₁ => f = .ref a ∧ W S w A (spliced (backTo pos (starEach (e :: args) env))) (fun vs h₂ => W S w A (eval value env) (fun kv h₃ => h₃.get? a = some o ∧ W S w A (call (.ref a) vs [(name, kv)]) Q h₃) h₂) h₁) h)
    (he : starEach (e :: args) env = (false, eval e env) :: starEach args env := by rfl) :
    W S w A (eval (.Call (.Name x np) (e :: args) [⟨some name, value, p⟩] pos) env) Q h :=
  ⟨fun _ => wpAny_Call_ofName (q.run fun f h₁ tk₁ q₁ => by
    obtain ⟨rfl, q₁⟩ := q₁
    refine callWith_def_kw hdat (evalArgs_kw2 rfl (q₁.run fun vs h₂ tk₂ q₂ => kwAll_cons (q₂.run fun kv h₃ tk₃ q₃ => kwAll_nil ?_)) he)
    exact ⟨q₃.1, q₃.2.ok _⟩)⟩
end
end Mine
open PySem PySem.W PyProof.Rows PySem.Calls
set_option Elab.async false
set_option maxRecDepth 100000
set_option maxHeartbeats 4000000
namespace Mine
/-- how many pass, where those ahead of r pass and no other -/
theorem cut_len {ns : List Int} {b : Int → Bool} {r : Nat} (hr : r ≤ ns.length) (h1 : ∀ i, i < r → b (ns.getD i 0) = true) (h2 : ∀ i, r ≤ i → i < ns.length → b (ns.getD i 0) = false) : (ns.filter b).length = r := by
  induction ns generalizing r with
  | nil => simp at hr ⊢; exact hr.symm
  | cons z ns ih =>
    cases r with
    | zero =>
      have h0 := h2 0 (by omega) (by simp)
      have e : (z :: ns).filter b = [] := List.filter_eq_nil_iff.mpr fun y hy => by
        obtain ⟨i, hi, e⟩ := List.getElem_of_mem hy
        have := h2 i (by omega) hi
        rw [List.getD_eq_getElem?_getD, List.getElem?_eq_getElem hi, Option.getD_some, e] at this
        rw [this]; decide
      rw [e]; rfl
    | succ r =>
      have h0 := h1 0 (by omega)
      have e : b z = true := h0
      rw [List.filter_cons, if_pos e, List.length_cons, ih (r := r) (by simpa using hr) (fun i hi => by simpa using h1 (i + 1) (by omega)) (fun i hi hi2 => by simpa using h2 (i + 1) (by omega) (by simpa using hi2))]
def pI (b : Int → Bool) : Value → Bool
  | .int z _ => b z
  | _ => false
theorem fil_of : ∀ {vs : List Value} {ns : List Int} (b : Int → Bool), vs.length = ns.length → (∀ (j : Nat) (v : Value), vs[j]? = some v → ∃ c u, ns[j]? = some c ∧ v = .int c u) → (vs.filter (pI b)).length = (ns.filter b).length
  | [], [], _, _, _ => rfl
  | v :: vs, c :: x, d, hl, hp => by
    have ih := fil_of (vs := vs) (ns := x) d (by simpa using hl) fun j v hj => by simpa using hp (j + 1) v (by simpa using hj)
    obtain ⟨c', u, e, rfl⟩ := hp 0 v rfl
    simp at e
    subst e
    have e1 : pI d (.int c u) = d c := rfl
    rw [List.filter_cons, List.filter_cons, e1]
    split
    · rw [List.length_cons, List.length_cons, ih]
    · exact ih
theorem mls_getD {wl : List Int} {x o : List Nat} {i : Nat} (h : i < 4) : (mls wl x o 3).getD i 0 = mil wl x o i := by
  rw [List.getD_eq_getElem?_getD, mls_get h]; rfl
section
variable {S : Shared} {w : World} {A : Around} {h h' h₀ : Heap} {env : Env} {L : Nat} {m mg mb : Str → Option Value} {l l' c c' : List (Str × Value)} {cs : List (Str × Nat)} {ps : Array Value}
/-- len([mile for mile in miles if ..]) -/
theorem rCntM {n ma : Nat} {ns : List Int} {np p1 p2 p3 p4 pos : Pos} {ifs : List Expr} {scope : Scope} {cl : List (Str × Nat)} (b : Int → Bool) {Q : Value → Heap → Prop} (G : Gl w mg mb h₀) (O : OkA n A) (X : LS h₀ L h l c ps) (hc : c.lookup (Str.ofString "miles") = some (.ref ma)) (hm : IL h ma ns) (hz : ns.length ≤ 100)
    (hclos : closureFor scope (lawE L) = Pure.pure cl)
    (test : ∀ S' C k u h₃, Lo h C h₃ [("mile", .int k u)] → W S' w A (tests ifs (compEnvC scope cl C (lawE L))) (fun ok h₄ => ok = b k ∧ Grow h₃ h₄) h₃)
    (q : ∀ h' tk, Grow h h' → Q (.int ((ns.filter b).length : Int) tk) h')
    (hcell : ∀ y ∈ scope.names, y.2 ≠ .cell := by decide) (hkind : scope.kind = .function := by rfl)
    (hnames : ∀ y ∈ scope.names, y.2 = .local → scope.names.lookup y.1 = some .local := by decide) (hx : scope.names.lookup (Str.ofString "mile") = some .local := by rfl) (hkd : ∀ C, (compEnvC scope cl C (lawE L)).kindOf (Str.ofString "mile") = some .local := by intro _; rfl) :
    W S w A (eval (.Call (.Name (Str.ofString "len") np) [.ListComp (.Name (Str.ofString "mile") p1) [⟨.Name (Str.ofString "mile") p2, .Name (Str.ofString "miles") p3, ifs, 0⟩] scope p4] [] pos) (lawE L)) Q h := by
  refine rCallN (rBlt (X.gl G) G.fr.1 boot_len (rCB (rItC ?_)))
  refine rLC ns.length (fun i v => ∃ k t, ns[i]? = some k ∧ v = .int k t) (pI b) (fun _ _ => True) hclos (rLc X hc ⟨⟨_, Src.il O.hd hm⟩, by omega, ?_, ?_, ?_⟩) hcell hkind hnames hx
  · rintro S' C i v h₃ F₃ ⟨k, u, _, rfl⟩
    exact test S' C k u h₃ F₃
  · rintro S' C i v h₃ F₃ ⟨k, u, _, rfl⟩ _
    exact rL F₃ rfl ⟨trivial, Grow.refl _⟩ rfl hkind (hkd C)
  · intro D h' zs us g hD hlen hP hF
    have hc : zs.length = (ns.filter b).length := by rw [← paired_len hF]; exact fil_of b hlen hP
    have hle : (ns.filter b).length ≤ ns.length := List.length_filter_le _ _
    exact rItN (rLenL hD (by omega) fun tk => by rw [hc]; exact q h' tk g)
end
end Mine
open PySem PySem.W PyProof.Rows PySem.Calls
set_option Elab.async false
set_option maxRecDepth 100000
set_option maxHeartbeats 4000000
namespace Mine
section
variable {S : Shared} {w : World} {A : Around} {h h' h₀ : Heap} {env : Env} {L : Nat} {m mg mb : Str → Option Value} {l l' c c' : List (Str × Value)} {cs : List (Str × Nat)} {ps : Array Value}
theorem law_s18 {n wa na pa ma ra aa ba : Nat} {wl : List Int} {x o : List Nat} {tx to tr : Tok} {rc : Int} {Q : Flow → Heap → Prop} (G : Gl w mg mb h₀) (Z : Lm h₀ mg) (O : OkA n A) (hn : n ≤ 40) (P : Pl wl x o)
    (X : LS h₀ L h [("ahead", .ref aa), ("back", .ref ba)] (c8 (.str (T x) tx) (.str (T o) to) (.int rc tr) (.ref wa) (.ref na) (.ref pa) (.ref ma) (.ref ra)) #[]) (hr : SL h ra (road wl x o))
    (q : ∀ h' (r : Nat) tk c', LS h₀ L h' [("ahead", .ref aa), ("back", .ref ba), ("border", .int (r : Int) tk)] (c8 (.str (T x) tx) (.str (T o) to) (.int rc tr) (.ref wa) (.ref na) (.ref pa) (.ref ma) (.ref ra)) #[rawInt 134, rawInt 43, .ref c'] → LP h h' →
      r ≤ 4 → (∀ i, i < r → mil wl x o i ≤ rc) → (∀ i, r ≤ i → i < 4 → rc < mil wl x o i) → Q .next h') : W S w A (exec (lawS 18) (lawE L)) Q h := by
  have G₀ := X.gl G
  refine rAsgN (rCallK (a := 37) (o := { cls := .type "function", data := .func brFd }) rfl (rGlob G₀ (gBr w) ⟨rfl, rItC (rLc X rfl (rItC (rLc X rfl (rItN (rLambda X G Z trivial rfl rfl fun f c' ctv h₁ X₁ p₁ hf hc => ?_)))))⟩))
  have G₁ := X₁.gl G
  have hr₁ := hr.lp p₁
  have ct : h₁.IsCell (L + 10) (some (.str (T x) tx)) := X₁.lc.get (x := "text") rfl rfl
  have cr : h₁.IsCell (L + 8) (some (.int rc tr)) := X₁.lc.get (x := "reach") rfl rfl
  refine ⟨G₁.k _ _ (look_br w), br_call (P := fun i v => ∃ r tk, v = .int r tk ∧ LevOk csc (rdw wl x o i) x rc r) (fun i => rc < mil wl x o i) G₁ O (by omega) hr₁ (by rw [road_len]; omega) ⟨⟨_, _, _, _, hf⟩, ?_⟩ ?_ ?_ ?_⟩
  · intro S' A' h₂ i z t Q' O' g₂ hz hQ
    obtain ⟨j, hj, rfl⟩ : ∃ j, j < 4 ∧ z = rdw wl x o j := mem_road (List.mem_of_getElem? hz)
    have hi : i < 4 := by rw [← road_len wl x o]; exact (List.getElem?_eq_some_iff.mp hz).1
    rw [road_get hi] at hz
    have ez : rdw wl x o i = rdw wl x o j := Option.some.inj hz
    have G₂ := G₁.grow g₂
    refine rCallL (binds := [("word", .str (T (rdw wl x o j)) t)]) G₂ O' (g₂ _ _ hf) (CodeRec.grow hc g₂) rfl rfl (mem_forall_cons nofun (mem_forall_cons nofun (mem_forall_cons nofun (mem_forall_cons nofun nofun)))) (locs rfl) (fun h₃ F₃ => ?_) (by omega) rfl rfl rfl
    have F₃ := Lo.of (names := ["word"]) F₃ rfl (by decide)
    have G₃ := G₂.grow F₃.keep
    have g₃ := g₂.trans F₃.keep
    have l0 := P.len 0 (by omega)
    have l1 := P.len j hj
    refine rCallN (rGlob G₃ (gLev w) (rCF (G₃.fn (look_lev w)) (rItC (rL F₃ rfl (rItC (rFree (g₃.cell ct) (rItC (rFree (g₃.cell cr) (rItN ⟨G₃.fn (look_lev w), lev_call G₃ O'.deeper (by omega) (by omega) (show (rdw wl x o 0).length ≤ 40 by omega) fun h₄ r t4 g₄ hlv => ?_⟩)))))))))
    exact hQ h₄ _ (F₃.keep.trans g₄) ⟨r, t4, rfl, by rw [ez]; exact hlv⟩
  · rintro i v hi ⟨r, tk, rfl, hlv⟩
    rw [road_len] at hi
    have hd : ((D csc (rdw wl x o i) x : Nat) : Int) = mil wl x o i - 0 := P.dst' 0 i (by omega) hi
    refine ⟨r, tk, rfl, ?_⟩
    rcases hlv with e | ⟨e1, e2⟩ <;> constructor <;> intro e3 <;> omega
  · intro i j hij hj hu
    rw [road_len] at hj
    have := P.mon i j hij hj
    show rc < mil wl x o j
    have : rc < mil wl x o i := hu
    omega
  · intro h₂ r tk g₂ hr4 h1 h2
    rw [road_len] at hr4 h2
    refine rSL (X₁.grow g₂) fun h₃ X₃ p₃ => q h₃ r tk c' X₃ (p₁.trans ((LP.of_grow g₂).trans p₃)) hr4 (fun i hi => by have := h1 i hi; omega) h2
theorem law_s19 {n wa na pa ma ra r : Nat} {wl : List Int} {x o : List Nat} {tx to tr tk : Tok} {rc : Int} {Q : Flow → Heap → Prop} (G : Gl w mg mb h₀) (O : OkA n A)
    (X : LS h₀ L h l (c8 (.str (T x) tx) (.str (T o) to) (.int rc tr) (.ref wa) (.ref na) (.ref pa) (.ref ma) (.ref ra)) ps) (hm : IL h ma (mls wl x o 3)) (hl : l.lookup (Str.ofString "border") = some (.int (r : Int) tk))
    (hr : r ≤ 4) (h1 : ∀ i, i < r → mil wl x o i ≤ rc) (h2 : ∀ i, r ≤ i → i < 4 → rc < mil wl x o i)
    (q : ∀ h', Grow h h' → Q .next h') : W S w A (exec (lawS 19) (lawE L)) Q h := by
  have cr : h.IsCell (L + 8) (some (.int rc tr)) := X.lc.get (x := "reach") rfl rfl
  have e : ((mls wl x o 3).filter (fun k => decide (k ≤ rc))).length = r := cut_len (by rw [mls_len]; exact hr) (fun i hi => by
    rw [mls_getD (by omega)]; exact decide_eq_true (h1 i hi)) (fun i hi hi2 => by
    rw [mls_len] at hi2
    rw [mls_getD hi2]; exact decide_eq_false (by have := h2 i hi hi2; omega))
  refine rIf (rTCmp (rLl X hl (rCntM (fun k => decide (k ≤ rc)) G O X rfl hm (by rw [mls_len]; omega) rfl ?_ ?_)))
  · intro S' C k u h₃ F₃
    exact rT1 (rTCmp (rL F₃ rfl (rCell (F₃.keep.cell cr) (rLe (rTBool ⟨rfl, Grow.refl _⟩)))))
  · intro h₁ t1 g₁
    rw [e]
    exact rNeI (rTBool ⟨fun e => by simp at e, fun _ => rNil (q h₁ g₁)⟩)
theorem law_s20 {n wa na pa ma ra aa : Nat} {wl : List Int} {x o : List Nat} {tx to tr : Tok} {rc : Int} {Q : Flow → Heap → Prop} (G : Gl w mg mb h₀) (O : OkA n A) (hn : n ≤ 40) (P : Pl wl x o)
    (X : LS h₀ L h l (c8 (.str (T x) tx) (.str (T o) to) (.int rc tr) (.ref wa) (.ref na) (.ref pa) (.ref ma) (.ref ra)) ps) (hm : IL h ma (mls wl x o 3)) (ha : IL h aa (mls wl x o 3)) (hl : l.lookup (Str.ofString "ahead") = some (.ref aa))
    (q : ∀ h', Grow h h' → Q .next h') : W S w A (exec (lawS 20) (lawE L)) Q h := by
  have G₀ := X.gl G
  refine rIf (rTCmp (rCallN (rGlob G₀ (gBl w) (rCF (G₀.fn (look_bl w)) (rItC (rLl X hl (rItC (rLc X rfl (rItN ⟨G₀.fn (look_bl w), bl_call G₀ O (by omega) ha (by rw [mls_len]; omega) ?_ ?_⟩)))))))))
  · intro i j hij hj
    rw [mls_len] at hj
    rw [mls_getD (by omega), mls_getD hj]
    exact P.mon i j hij hj
  · intro h₁ r t1 g₁ hr h1 h2
    have X₁ := X.grow g₁
    have cr : h₁.IsCell (L + 8) (some (.int rc tr)) := X₁.lc.get (x := "reach") rfl rfl
    have e : ((mls wl x o 3).filter (fun k => decide (k < rc))).length = r := cut_len hr (fun i hi => decide_eq_true (h1 i hi)) (fun i hi hi2 => decide_eq_false (by have := h2 i hi hi2; omega))
    refine rCntM (fun k => decide (k < rc)) G O X₁ rfl (hm.grow g₁) (by rw [mls_len]; omega) rfl ?_ ?_
    · intro S' C k u h₃ F₃
      exact rT1 (rTCmp (rL F₃ rfl (rCell (F₃.keep.cell cr) (rLt (rTBool ⟨rfl, Grow.refl _⟩)))))
    · intro h₂ t2 g₂
      rw [e]
      exact rNeI (rTBool ⟨fun e => by simp at e, fun _ => rNil (q h₂ (g₁.trans g₂))⟩)
end
end Mine
open PySem PySem.W PyProof.Rows PySem.Calls
set_option Elab.async false
set_option maxRecDepth 100000
set_option maxHeartbeats 4000000
namespace Mine
abbrev c9 (text order reach ways new pairs miles road half : Value) : List (Str × Value) := [("text", text), ("order", order), ("reach", reach), ("ways", ways), ("new", new), ("pairs", pairs), ("miles", miles), ("road", road), ("half", half)]
theorem pick_drop (r : Nat) (xs : List (List Nat)) : ∀ i, i ≤ xs.length → pick (fun i => decide (r ≤ i)) xs i = (xs.take i).drop r
  | 0, _ => by simp [pick_zero]
  | i + 1, hi => by
    have hx : xs[i]? = some xs[i] := List.getElem?_eq_getElem hi
    rw [pick_succ _ hx, pick_drop r xs i (by omega), List.take_add_one, hx, List.drop_append]
    congr 1
    have hl : (xs.take i).length = i := by simp; omega
    rw [hl]
    by_cases h : r ≤ i
    · have e : r - i = 0 := by omega
      simp [h, e]
    · have e : r - i = (r - i - 1) + 1 := by omega
      rw [e]; simp [h]
theorem pick_take (r : Nat) (xs : List (List Nat)) : ∀ i, i ≤ xs.length → pick (fun i => !decide (r ≤ i)) xs i = (xs.take i).take r
  | 0, _ => by simp [pick_zero]
  | i + 1, hi => by
    have hx : xs[i]? = some xs[i] := List.getElem?_eq_getElem hi
    rw [pick_succ _ hx, pick_take r xs i (by omega), List.take_add_one, hx, List.take_append]
    congr 1
    have hl : (xs.take i).length = i := by simp; omega
    rw [hl]
    by_cases h : r ≤ i
    · have e : r - i = 0 := by omega
      simp [h, e]
    · have e : r - i = (r - i - 1) + 1 := by omega
      rw [e]; simp [h]
theorem shaped_two {xs ys : List (List Nat)} (h1 : ∀ x ∈ xs, ∀ d ∈ x, d < 128) (h2 : ∀ x ∈ ys, ∀ d ∈ x, d < 128) : PySem.SeqAt.shaped (.tuple [.list ((xs.map T).map .str), .list ((ys.map T).map .str)]) = true := by
  unfold PySem.SeqAt.shaped
  have c1 : PyData.canLay0 (.tuple [.list ((xs.map T).map .str), .list ((ys.map T).map .str)]) = true := by
    show (PyData.canLayAll0 ((xs.map T).map .str) && (PyData.canLayAll0 ((ys.map T).map .str) && true)) = true
    rw [canAll_strs h1, canAll_strs h2]; rfl
  have c2 : PyData.depth (.tuple [.list ((xs.map T).map .str), .list ((ys.map T).map .str)]) = 2 := by
    show max (PyData.depthAll ((xs.map T).map .str) + 1) (max (PyData.depthAll ((ys.map T).map .str) + 1) 0) + 1 = 2
    rw [depAll_strs, depAll_strs]; rfl
  rw [c1, c2]; rfl
section
variable {S : Shared} {w : World} {A : Around} {h h' h₀ : Heap} {env : Env} {L : Nat} {m mg mb : Str → Option Value} {l l' c c' : List (Str × Value)} {cs : List (Str × Nat)} {ps : Array Value}
theorem law_s21 {wa na pa ma ra ba : Nat} {wl : List Int} {x o : List Nat} {tx to : Tok} {rv : Value} {Q : Flow → Heap → Prop}
    (X : LS h₀ L h l (c8 (.str (T x) tx) (.str (T o) to) rv (.ref wa) (.ref na) (.ref pa) (.ref ma) (.ref ra)) ps) (hb : IL h ba ((mls wl x o 3).map fun v => mil wl x o 3 - v)) (hl : l.lookup (Str.ofString "back") = some (.ref ba))
    (q : ∀ h' hf tk, LS h₀ L h' l (c9 (.str (T x) tx) (.str (T o) to) rv (.ref wa) (.ref na) (.ref pa) (.ref ma) (.ref ra) (.int hf tk)) ps → LP h h' → Q .next h') : W S w A (exec (lawS 21) (lawE L)) Q h := by
  refine rAsgN (rBin (rSub (rLl X hl (rInt fun _ => rGetIL (k := 0) hb (by omega) (by rw [List.getElem?_map, mls_get (by omega)]; rfl) (fun t1 => rInt fun _ => rFd (by decide) (PyProof.noPylong_small (by decide)) fun t2 => ?_) sbConst))))
  exact rSC X fun h₁ X₁ p₁ => q h₁ _ t2 X₁ p₁
theorem law_s22 {n wa na pa ma ra aa ba : Nat} {wl : List Int} {x o : List Nat} {tx to th : Tok} {rv : Value} {hf : Int} {bv : Value} {Q : Flow → Heap → Prop} (G : Gl w mg mb h₀) (O : OkA n A) (hn : n ≤ 40) (P : Pl wl x o)
    (X : LS h₀ L h [("ahead", .ref aa), ("back", .ref ba), ("border", bv)] (c9 (.str (T x) tx) (.str (T o) to) rv (.ref wa) (.ref na) (.ref pa) (.ref ma) (.ref ra) (.int hf th)) ps) (ha : IL h aa (mls wl x o 3))
    (q : ∀ h' (r : Nat) tk, LS h₀ L h' [("ahead", .ref aa), ("back", .ref ba), ("border", bv), ("turn", .int (r : Int) tk)] (c9 (.str (T x) tx) (.str (T o) to) rv (.ref wa) (.ref na) (.ref pa) (.ref ma) (.ref ra) (.int hf th)) ps → LP h h' →
      r ≤ 4 → (∀ i, i < r → mil wl x o i < mil wl x o 3 - hf) → (∀ i, r ≤ i → i < 4 → mil wl x o 3 - hf ≤ mil wl x o i) → Q .next h') : W S w A (exec (lawS 22) (lawE L)) Q h := by
  have G₀ := X.gl G
  refine rAsgN (rCallN (rGlob G₀ (gBl w) (rCF (G₀.fn (look_bl w)) (rItC (rLl X rfl (rItC (rBin (rSub (rLl X rfl (rInt fun _ => rGetIL (k := 3) ha (by omega) (mls_get (by omega)) (fun t1 => rLc X rfl (rSubI fun t2 => rItN ⟨G₀.fn (look_bl w), bl_call G₀ O (by omega) ha (by rw [mls_len]; omega) ?_ ?_⟩)) sbConst))))))))))
  · intro i j hij hj
    rw [mls_len] at hj
    rw [mls_getD (by omega), mls_getD hj]
    exact P.mon i j hij hj
  · intro h₁ r t1 g₁ hr h1 h2
    rw [mls_len] at hr h2
    exact rSL (X.grow g₁) fun h₂ X₂ p₂ => q h₂ r t1 X₂ ((LP.of_grow g₁).trans p₂) hr (fun i hi => by have := h1 i hi; rwa [mls_getD (by omega)] at this) (fun i hi hi2 => by have := h2 i hi hi2; rwa [mls_getD hi2] at this)
theorem law_s23 {n wa na pa ma ra r : Nat} {wl : List Int} {x o : List Nat} {tx to th tk : Tok} {rv : Value} {hf : Int} {Q : Flow → Heap → Prop} (G : Gl w mg mb h₀) (O : OkA n A)
    (X : LS h₀ L h l (c9 (.str (T x) tx) (.str (T o) to) rv (.ref wa) (.ref na) (.ref pa) (.ref ma) (.ref ra) (.int hf th)) ps) (hm : IL h ma (mls wl x o 3)) (hl : l.lookup (Str.ofString "turn") = some (.int (r : Int) tk))
    (hr : r ≤ 4) (h1 : ∀ i, i < r → mil wl x o i < mil wl x o 3 - hf) (h2 : ∀ i, r ≤ i → i < 4 → mil wl x o 3 - hf ≤ mil wl x o i)
    (q : ∀ h', Grow h h' → Q .next h') : W S w A (exec (lawS 23) (lawE L)) Q h := by
  have ch : h.IsCell (L + 7) (some (.int hf th)) := X.lc.get (x := "half") rfl rfl
  have cm : h.IsCell (L + 5) (some (.ref ma)) := X.lc.get (x := "miles") rfl rfl
  have e : ((mls wl x o 3).filter (fun k => decide (k < mil wl x o 3 - hf))).length = r := cut_len (by rw [mls_len]; exact hr) (fun i hi => by
    rw [mls_getD (by omega)]; exact decide_eq_true (h1 i hi)) (fun i hi hi2 => by
    rw [mls_len] at hi2
    rw [mls_getD hi2]; exact decide_eq_false (by have := h2 i hi hi2; omega))
  refine rIf (rTCmp (rLl X hl (rCntM (fun k => decide (k < mil wl x o 3 - hf)) G O X rfl hm (by rw [mls_len]; omega) rfl ?_ ?_)))
  · intro S' C k u h₃ F₃
    exact rT1 (rTCmp (rL F₃ rfl (rBin (rSub (rCell (F₃.keep.cell cm) (rInt fun _ => rGetIL (k := 3) (hm.grow F₃.keep) (by omega) (mls_get (by omega)) (fun t3 => rCell (F₃.keep.cell ch) (rSubI fun t4 => rLt (rTBool ⟨rfl, Grow.refl _⟩))) sbConst))))))
  · intro h₁ t1 g₁
    rw [e]
    exact rNeI (rTBool ⟨fun e => by simp at e, fun _ => rNil (q h₁ g₁)⟩)
end
end Mine
open PySem PySem.W PyProof.Rows PySem.Calls
set_option Elab.async false
set_option maxRecDepth 100000
set_option maxHeartbeats 4000000
namespace Mine
section
variable {S : Shared} {w : World} {A : Around} {h h' h₀ : Heap} {env : Env} {L : Nat} {m mg mb : Str → Option Value} {l l' c c' : List (Str × Value)} {cs : List (Str × Nat)} {ps : Array Value}
theorem reads_two {t y z : Nat} {xs ys : List (List Nat)} (ht : IsTup h t #[.ref y, .ref z]) (h1 : SL h y xs) (h2 : SL h z ys) : ∃ as, Reads h (.ref t) (.tuple [.list ((xs.map T).map .str), .list ((ys.map T).map .str)]) as := by
  obtain ⟨o, e, hc, n, hd⟩ := ht
  exact ⟨_, .tuple e hc hd (.cons h1.reads (.cons h2.reads .nil))⟩
theorem law_s24 {n wa na pa ma ra r cc : Nat} {wl : List Int} {x o : List Nat} {tx to th tk : Tok} {rv : Value} {hf : Int} {Q : Flow → Heap → Prop} (G : Gl w mg mb h₀) (Z : Lm h₀ mg) (O : OkA n A) (hn : n ≤ 40) (P : Pl wl x o)
    (X : LS h₀ L h l (c9 (.str (T x) tx) (.str (T o) to) rv (.ref wa) (.ref na) (.ref pa) (.ref ma) (.ref ra) (.int hf th)) #[rawInt 134, rawInt 43, .ref cc]) (hr : SL h ra (road wl x o)) (hl : l.lookup (Str.ofString "turn") = some (.int (r : Int) tk))
    (hr4 : r ≤ 4) (h1 : ∀ i, i < r → mil wl x o i < mil wl x o 3 - hf) (h2 : ∀ i, r ≤ i → i < 4 → mil wl x o 3 - hf ≤ mil wl x o i)
    (q : ∀ h' ps', LS h₀ L h' l (c9 (.str (T x) tx) (.str (T o) to) rv (.ref wa) (.ref na) (.ref pa) (.ref ma) (.ref ra) (.int hf th)) ps' → Q (.ret (.bool true)) h') : W S w A (exec (lawS 24) (lawE L)) Q h := by
  have G₀ := X.gl G
  refine rRet (rCmp (rCallN (rGlob G₀ (gSpl w) (rCF (G₀.fn (look_spl w)) (rItC (rLc X rfl (rItC (rLambda X G Z trivial rfl rfl fun f c' ctv h₁ X₁ p₁ hf₁ hc => rItN ⟨(X₁.gl G).fn (look_spl w), ?_⟩))))))))
  have G₁ := X₁.gl G
  have hr₁ := hr.lp p₁
  have cr : h₁.IsCell (L + 9) (some (.ref ra)) := X₁.lc.get (x := "road") rfl rfl
  have ch : h₁.IsCell (L + 7) (some (.int hf th)) := X₁.lc.get (x := "half") rfl rfl
  refine spl_call (fun i => decide (r ≤ i)) G₁ O (by omega) hr₁ (by rw [road_len]; omega) ⟨⟨_, _, _, _, hf₁⟩, ?_⟩ ?_
  · intro S' A' h₂ i z t Q' O' g₂ hz hQ
    have hi : i < 4 := by rw [← road_len wl x o]; exact (List.getElem?_eq_some_iff.mp hz).1
    rw [road_get hi] at hz
    have ez : rdw wl x o i = z := Option.some.inj hz
    subst ez
    have G₂ := G₁.grow g₂
    refine rCallL (binds := [("word", .str (T (rdw wl x o i)) t)]) G₂ O' (g₂ _ _ hf₁) (CodeRec.grow hc g₂) rfl rfl (mem_forall_cons nofun (mem_forall_cons nofun (mem_forall_cons nofun (mem_forall_cons nofun nofun)))) (locs rfl) (fun h₃ F₃ => ?_) (by omega) rfl rfl rfl
    have F₃ := Lo.of (names := ["word"]) F₃ rfl (by decide)
    have G₃ := G₂.grow F₃.keep
    have g₃ := g₂.trans F₃.keep
    have l3 := P.len 3 (by omega)
    have l1 := P.len i hi
    refine rCmp (rCallN (rGlob G₃ (gLev w) (rCF (G₃.fn (look_lev w)) (rItC (rL F₃ rfl (rItC (rSub (rFree (g₃.cell cr) (rInt fun _ => rGetSL (k := 3) (hr₁.grow g₃) (by omega) (road_get (by omega)) (fun t3 => rItC (rFree (g₃.cell ch) (rItN ⟨G₃.fn (look_lev w), lev_call G₃ O'.deeper (by omega) (by omega) (by omega) fun h₄ rr t4 g₄ hlv => ?_⟩))) sbConst)))))))))
    refine rFree (g₄.cell (g₃.cell ch)) (rLe (hQ h₄ _ (F₃.keep.trans g₄) ?_))
    have hd := P.dst i 3 (by omega) (by omega)
    congr 1
    by_cases hri : r ≤ i
    · have := h2 i hri hi
      rw [decide_eq_true hri]
      refine decide_eq_true ?_
      rcases hlv with e | ⟨e1, e2⟩ <;> omega
    · have := h1 i (by omega)
      rw [decide_eq_false hri]
      refine decide_eq_false ?_
      rcases hlv with e | ⟨e1, e2⟩ <;> omega
  · intro h₂ t y z g₂ ht hy hz
    rw [pick_drop r _ _ (Nat.le_refl _), List.take_length] at hy
    rw [pick_take r _ _ (Nat.le_refl _), List.take_length] at hz
    have X₂ := X₁.grow g₂
    obtain ⟨vs, xv, yv⟩ := id (hr₁.grow g₂)
    have lv : vs.length = 4 := by rw [yv.len_eq, List.length_map, road_len]
    refine rTuple (rItC (rSlL (rLc X₂ rfl (rPS (rLl X₂ hl (rPN ⟨ra, vs, some ((r : Nat) : Int), none, rfl, xv, by omega, .int _ _, .none, fun b₃ h₃ g₃ x₃ => ?_⟩))))))
    have X₃ := X₂.grow g₃
    rw [slicePick_from'] at x₃
    refine rItC (rSlL (rLc X₃ rfl (rPN (rPS (rLl X₃ hl ⟨ra, vs, none, some ((r : Nat) : Int), rfl, g₃.lst xv, by omega, .none, .int _ _, fun b₄ h₄ g₄ x₄ => ?_⟩)))))
    rw [pick_upto] at x₄
    refine rItN ⟨by simp, fun h₅ b₅ g₅ _ x₅ => ?_⟩
    have g₃₅ := g₃.trans (g₄.trans g₅)
    have sy : SL h₅ b₃ ((road wl x o).drop r) := ⟨_, (plain_grow x₃ (g₄.trans g₅)).isList, by rw [List.map_drop]; exact strsAre_drop yv r⟩
    have sz : SL h₅ b₄ ((road wl x o).take r) := ⟨_, (plain_grow x₄ g₅).isList, by rw [List.map_take]; exact strsAre_take yv r⟩
    obtain ⟨a1, r1⟩ := reads_two (ht.keeps g₃₅) (hy.grow g₃₅) (hz.grow g₃₅)
    obtain ⟨a2, r2⟩ := reads_two x₅ sy sz
    exact rEqSame O (by omega) r1 r2 (shaped_two (fun x hx => P.cod x (List.mem_of_mem_drop hx)) (fun x hx => P.cod x (List.mem_of_mem_take hx))) (q h₅ _ (X₂.grow g₃₅))
end
end Mine
open PySem PySem.W PyProof.Rows PySem.Calls
set_option Elab.async false
set_option maxRecDepth 100000
set_option maxHeartbeats 4000000
namespace Mine
def alph : List Nat := [46, 97, 98, 99, 65, 66, 67, 49, 50, 51]
theorem csc_alph : ∀ e ∈ ([97, 98, 99] : List Nat), ∀ y ∈ alph, y ≠ e → 1 ≤ csc e y ∧ (y + 32 ≠ e → csc e y = 2) := by decide +kernel
theorem csc_cap : ∀ k ∈ ([0, 1, 2] : List Nat), csc (97 + k) (65 + k) = 1 := by decide +kernel
theorem csc_bang : ∀ y ∈ alph, csc 33 y = 2 ∧ csc y 63 = 2 := by decide +kernel
theorem csc_bq : csc 33 63 = 2 := by decide +kernel
/-- what may stand in a new word -/
theorem nw_mem {wl : List Int} {c e : Nat} (hc : c = 97 ∨ c = 98 ∨ c = 99) (h : e ∈ (nwL wl).getD (c - 97) []) : e = c - 48 ∨ (e = c - 32 ∧ wl.getD (c - 97) 0 = 0) := by
  rcases hc with rfl | rfl | rfl
  · have h : e ∈ nwOf 0 (wl.getD 0 0) := h
    unfold nwOf at h
    split at h
    · rename_i h0; exact .inr ⟨by simpa using h, h0⟩
    · split at h
      · exact .inl (by simpa using h)
      · cases h
  · have h : e ∈ nwOf 1 (wl.getD 1 0) := h
    unfold nwOf at h
    split at h
    · rename_i h0; exact .inr ⟨by simpa using h, h0⟩
    · split at h
      · exact .inl (by simpa using h)
      · cases h
  · have h : e ∈ nwOf 2 (wl.getD 2 0) := h
    unfold nwOf at h
    split at h
    · rename_i h0; exact .inr ⟨by simpa using h, h0⟩
    · split at h
      · exact .inl (by simpa using h)
      · cases h
theorem sb_wd {nw : List (List Nat)} {g : List Nat} {d : Nat} (x : List Nat) (hd : d ∉ g) (hn : ∀ c ∈ g, d ∉ nw.getD (c - 97) []) : sb d (nw.getD (d - 97) []) (x.flatMap (wd nw g)) = x.flatMap (wd nw (g ++ [d])) := by
  unfold sb
  rw [List.flatMap_assoc]
  congr 1
  funext c
  by_cases hc : c ∈ g
  · have e1 : wd nw g c = nw.getD (c - 97) [] := by unfold wd; rw [if_pos hc]
    have e2 : wd nw (g ++ [d]) c = nw.getD (c - 97) [] := by unfold wd; rw [if_pos (List.mem_append_left _ hc)]
    rw [e1, e2]
    exact sb_free (hn c hc)
  · have e1 : wd nw g c = [c] := by unfold wd; rw [if_neg hc]
    rw [e1]
    by_cases hcd : c = d
    · subst hcd
      have e2 : wd nw (g ++ [c]) c = nw.getD (c - 97) [] := by unfold wd; rw [if_pos (List.mem_append_right _ (.head _))]
      rw [e2]; simp
    · have e2 : wd nw (g ++ [d]) c = [c] := by unfold wd; rw [if_neg (by simp [hc, hcd])]
      rw [e2]; simp [hcd]
theorem perm_nodup {o : List Nat} (h : o ∈ perms) : o.Nodup := by
  unfold perms at h
  simp at h
  rcases h with rfl | rfl | rfl | rfl | rfl | rfl <;> decide
theorem take_notin {o : List Nat} (hn : o.Nodup) {k d : Nat} (hk : o[k]? = some d) : d ∉ o.take k := by
  intro hm
  have h1 : (o.take k ++ o.drop k).Nodup := by rw [List.take_append_drop]; exact hn
  have h2 : d ∈ o.drop k := by
    have : (o.drop k)[0]? = some d := by rw [List.getElem?_drop]; simpa using hk
    exact List.mem_of_getElem? this
  exact (List.nodup_append.mp h1).2.2 d hm d h2 rfl
theorem wrd_eq {wl : List Int} {x o : List Nat} (ho : o ∈ perms) : ∀ k, k ≤ 3 → rdw wl x o k = x.flatMap (wd (nwL wl) (o.take k))
  | 0, _ => by
    have e : ∀ c, wd (nwL wl) (o.take 0) c = [c] := fun c => by unfold wd; simp
    have : x.flatMap (wd (nwL wl) (o.take 0)) = x := by
      rw [show wd (nwL wl) (o.take 0) = fun c => [c] from funext e]; simp
    rw [this]; rfl
  | k + 1, hk => by
    obtain ⟨ho3, hod⟩ := perm_mem ho
    have hkl : k < o.length := by omega
    have hg : o[k]? = some o[k] := List.getElem?_eq_getElem hkl
    have ih := wrd_eq (wl := wl) (x := x) ho k (by omega)
    have e1 : rdw wl x o (k + 1) = sb o[k] ((nwL wl).getD (o[k] - 97) []) (rdw wl x o k) := by
      unfold rdw reps
      rw [prs_succ wl hg, List.foldl_append]; rfl
    rw [e1, ih, List.take_add_one, hg]
    refine sb_wd x (take_notin (perm_nodup ho) hg) fun c hc hm => ?_
    have h1 := hod c (List.mem_of_mem_take hc)
    have h2 := hod _ (List.mem_of_getElem? hg)
    have h3 := nw_mem h1 hm
    omega
theorem mem_rdw {wl : List Int} {x o : List Nat} {k y : Nat} (hx : Tx x) (ho : o ∈ perms) (hk : k ≤ 3) (hy : y ∈ rdw wl x o k) :
    y ∈ alph ∧ y ∉ o.take k ∧ (∀ e, e = 97 ∨ e = 98 ∨ e = 99 → y + 32 = e → wl.getD (e - 97) 0 = 0) := by
  rw [wrd_eq ho k hk] at hy
  obtain ⟨c, hc, hyc⟩ := List.mem_flatMap.mp hy
  obtain ⟨ho3, hod⟩ := perm_mem ho
  have hcx := hx.1 c hc
  unfold wd at hyc
  split at hyc
  · rename_i hg
    have h1 := hod c (List.mem_of_mem_take hg)
    have h2 := nw_mem h1 hyc
    refine ⟨?_, fun hm => ?_, fun e he hye => ?_⟩
    · unfold alph
      rcases h1 with rfl | rfl | rfl <;> rcases h2 with rfl | ⟨rfl, _⟩ <;> decide
    · have := hod y (List.mem_of_mem_take hm)
      omega
    · rcases h2 with h2 | ⟨h2, h3⟩
      · omega
      · have : e = c := by omega
        rw [this]; exact h3
  · rename_i hg
    have e : y = c := by simpa using hyc
    subst e
    refine ⟨?_, hg, fun e he hye => by omega⟩
    unfold alph
    rcases hcx with rfl | rfl | rfl | rfl <;> decide
end Mine
open PySem PySem.W PyProof.Rows PySem.Calls
set_option Elab.async false
set_option maxRecDepth 100000
set_option maxHeartbeats 4000000
namespace Mine
def pr (wl : List Int) (c : Nat) : Nat := if wl.getD (c - 97) 0 = 0 then 1 else 2
theorem pr_le (wl : List Int) (c : Nat) : pr wl c ≤ 2 := by unfold pr; split <;> omega
/-- the price of the letters gone -/
def gn (wl : List Int) (g : List Nat) (c : Nat) : Nat := if c ∈ g then pr wl c else 0
def gd (wl : List Int) (g g' : List Nat) (c : Nat) : Nat := if c ∈ g' ∧ c ∉ g then pr wl c else 0
theorem sum_add {α : Type} (f g k : α → Nat) : ∀ x : List α, (∀ c ∈ x, f c + g c = k c) → (x.map f).sum + (x.map g).sum = (x.map k).sum
  | [], _ => rfl
  | c :: x, h => by
    have ih := sum_add f g k x fun d hd => h d (.tail _ hd)
    have h0 := h c (.head _)
    simp only [List.map_cons, List.sum_cons]
    omega
theorem gn_snoc (wl : List Int) {g : List Nat} {d : Nat} (hd : d ∉ g) (x : List Nat) : (x.map (gn wl (g ++ [d]))).sum = (x.map (gn wl g)).sum + pr wl d * cnt d x := by
  unfold cnt
  induction x with
  | nil => simp
  | cons c x ih =>
    rw [List.map_cons, List.sum_cons, List.map_cons, List.sum_cons, ih, List.filter_cons]
    by_cases hc : c = d
    · subst hc
      have e1 : gn wl (g ++ [c]) c = pr wl c := by unfold gn; simp
      have e2 : gn wl g c = 0 := by unfold gn; rw [if_neg hd]
      rw [e1, e2]
      simp [Nat.mul_add]
      omega
    · have e1 : gn wl (g ++ [d]) c = gn wl g c := by unfold gn; simp [hc]
      rw [e1]
      simp [hc]
      omega
theorem mil_eq {wl : List Int} {x o : List Nat} (ho : o ∈ perms) : ∀ k, k ≤ 3 → mil wl x o k = (((x.map (gn wl (o.take k))).sum : Nat) : Int)
  | 0, _ => by
    have e : ∀ x : List Nat, (x.map (gn wl (o.take 0))).sum = 0 := fun x => by
      induction x with
      | nil => rfl
      | cons c x ih => rw [List.map_cons, List.sum_cons, ih]; unfold gn; simp
    rw [e]; rfl
  | k + 1, hk => by
    obtain ⟨ho3, hod⟩ := perm_mem ho
    have hkl : k < o.length := by omega
    have hg : o[k]? = some o[k] := List.getElem?_eq_getElem hkl
    have ih := mil_eq (wl := wl) (x := x) ho k (by omega)
    have e1 : mil wl x o (k + 1) = mil wl x o k + price wl x (o.getD k 0) := rfl
    have e2 : o.getD k 0 = o[k] := by rw [List.getD_eq_getElem?_getD, hg]; rfl
    have e3 : price wl x o[k] = ((pr wl o[k] * cnt o[k] x : Nat) : Int) := by
      unfold price pr
      split <;> simp
    rw [e1, e2, e3, ih, List.take_add_one, hg]
    have := gn_snoc wl (take_notin (perm_nodup ho) hg) x
    show _ = (((x.map (gn wl (o.take k ++ [o[k]]))).sum : Nat) : Int)
    rw [this]; omega
theorem take_sub {o : List Nat} {i j : Nat} (h : i ≤ j) {c : Nat} (hc : c ∈ o.take i) : c ∈ o.take j := by
  have e : o.take i = (o.take j).take i := by rw [List.take_take, Nat.min_eq_left h]
  rw [e] at hc
  exact List.mem_of_mem_take hc
theorem gd_sum {wl : List Int} {x o : List Nat} {i j : Nat} (h : i ≤ j) : (x.map (gd wl (o.take i) (o.take j))).sum + (x.map (gn wl (o.take i))).sum = (x.map (gn wl (o.take j))).sum := by
  refine sum_add _ _ _ x fun c _ => ?_
  unfold gd gn
  by_cases h1 : c ∈ o.take i
  · have h2 := take_sub h h1
    simp [h1, h2]
  · by_cases h2 : c ∈ o.take j <;> simp [h1, h2]
theorem sum_flat {f : Nat → List Nat} {φ ψ : Nat → Nat} : ∀ x : List Nat, (∀ c ∈ x, ((f c).map φ).sum = ψ c) → ((x.flatMap f).map φ).sum = (x.map ψ).sum
  | [], _ => rfl
  | c :: x, h => by
    rw [List.flatMap_cons, List.map_append, List.sum_append, List.map_cons, List.sum_cons, h c (.head _), sum_flat x fun d hd => h d (.tail _ hd)]
theorem dst_eq {wl : List Int} {x o : List Nat} (hW : Wy wl) (hx : Tx x) (ho : o ∈ perms) {i j : Nat} (h : i ≤ j) (hj : j ≤ 3) : D csc (rdw wl x o i) (rdw wl x o j) = (x.map (gd wl (o.take i) (o.take j))).sum := by
  obtain ⟨ho3, hod⟩ := perm_mem ho
  refine Nat.le_antisymm ?_ ?_
  · rw [wrd_eq ho i (by omega), wrd_eq ho j hj]
    refine D_upper csc _ _ _ x fun c hc => ?_
    by_cases h2 : c ∈ o.take j
    · by_cases h1 : c ∈ o.take i
      · have e : wd (nwL wl) (o.take i) c = wd (nwL wl) (o.take j) c := by unfold wd; rw [if_pos h1, if_pos h2]
        rw [e, D_self csc csc_self]; exact Nat.zero_le _
      · have e1 : wd (nwL wl) (o.take i) c = [c] := by unfold wd; rw [if_neg h1]
        have e2 : wd (nwL wl) (o.take j) c = (nwL wl).getD (c - 97) [] := by unfold wd; rw [if_pos h2]
        have e3 : gd wl (o.take i) (o.take j) c = pr wl c := by unfold gd; rw [if_pos ⟨h2, h1⟩]
        have hcd := hod c (List.mem_of_mem_take h2)
        rw [e1, e2, e3]
        have go : ∀ k, k ∈ ([0, 1, 2] : List Nat) → D csc [97 + k] (nwOf k (wl.getD k 0)) ≤ if wl.getD k 0 = 0 then 1 else 2 := fun k hk => by
          unfold nwOf
          split
          · have := D_cc csc (97 + k) (65 + k) [] []
            rw [this, csc_cap k hk, D_nil csc []]
            simp
          · split
            · have := D_cc csc (97 + k) (49 + k) [] []
              rw [this, D_nil csc []]
              have := csc_le (97 + k) (49 + k)
              simp
              omega
            · rw [D_nil']; simp
        rcases hcd with rfl | rfl | rfl
        · exact go 0 (by decide)
        · exact go 1 (by decide)
        · exact go 2 (by decide)
    · have h1 : c ∉ o.take i := fun q => h2 (take_sub h q)
      have e : wd (nwL wl) (o.take i) c = wd (nwL wl) (o.take j) c := by unfold wd; rw [if_neg h1, if_neg h2]
      rw [e, D_self csc csc_self]; exact Nat.zero_le _
  · have e : ((rdw wl x o i).map (gd wl (o.take i) (o.take j))).sum = (x.map (gd wl (o.take i) (o.take j))).sum := by
      rw [wrd_eq ho i (by omega)]
      refine sum_flat x fun c hc => ?_
      unfold wd
      split
      · rename_i h1
        have hcd := hod c (List.mem_of_mem_take h1)
        have z1 : gd wl (o.take i) (o.take j) c = 0 := by unfold gd; rw [if_neg (fun q => q.2 h1)]
        rw [z1]
        have : ∀ y : List Nat, (∀ e ∈ y, gd wl (o.take i) (o.take j) e = 0) → (y.map (gd wl (o.take i) (o.take j))).sum = 0 := fun y => by
          induction y with
          | nil => intro _; rfl
          | cons e y ih => intro hy; rw [List.map_cons, List.sum_cons, hy e (.head _), ih fun f hf => hy f (.tail _ hf)]
        refine this _ fun e he => ?_
        have := nw_mem hcd he
        unfold gd
        rw [if_neg]
        intro q
        have := hod e (List.mem_of_mem_take q.1)
        omega
      · simp
    rw [← e]
    refine D_lower csc _ (fun c => ?_) fun e he y hy => ?_
    · unfold gd
      split
      · exact pr_le _ _
      · omega
    · unfold gd
      split
      · rename_i hg
        obtain ⟨ya, yn, yc⟩ := mem_rdw hx ho hj hy
        have hed := hod e (List.mem_of_mem_take hg.1)
        have hne : y ≠ e := fun q => yn (q ▸ hg.1)
        have hm : e ∈ ([97, 98, 99] : List Nat) := by rcases hed with rfl | rfl | rfl <;> decide
        obtain ⟨c1, c2⟩ := csc_alph e hm y ya hne
        by_cases hcap : y + 32 = e
        · have := yc e hed hcap
          unfold pr
          rw [if_pos this]; exact c1
        · rw [c2 hcap]; exact pr_le _ _
      · omega
theorem flat_le {f : Nat → List Nat} (h : ∀ c, (f c).length ≤ 1) : ∀ x : List Nat, (x.flatMap f).length ≤ x.length
  | [] => by simp
  | c :: x => by
    have := h c
    have := flat_le h x
    rw [List.flatMap_cons, List.length_append, List.length_cons]; omega
theorem wd_le (wl : List Int) {g : List Nat} (hg : ∀ d ∈ g, d = 97 ∨ d = 98 ∨ d = 99) (c : Nat) : (wd (nwL wl) g c).length ≤ 1 := by
  unfold wd
  split
  · rename_i h
    have := hg c h
    exact nwL_one wl _ (List.mem_of_getElem? (nwL_get (wl := wl) (k := c - 97) (by omega)))
  · simp
theorem gn_le (wl : List Int) (g : List Nat) : ∀ x : List Nat, (x.map (gn wl g)).sum ≤ 2 * x.length
  | [] => by simp
  | c :: x => by
    have h1 := gn_le wl g x
    have h2 : gn wl g c ≤ 2 := by
      unfold gn
      split
      · exact pr_le _ _
      · omega
    rw [List.map_cons, List.sum_cons, List.length_cons]; omega
theorem pl_of {wl : List Int} {x o : List Nat} (hW : Wy wl) (hx : Tx x) (ho : o ∈ perms) : Pl wl x o := by
  obtain ⟨ho3, hod⟩ := perm_mem ho
  refine ⟨fun k hk => (wrd_eq ho k (by omega)).symm, fun z hz d hd => ?_, fun i hi => ?_, fun i j hij hj => ?_, fun i j hij hj => ?_, ?_, ?_⟩
  · obtain ⟨i, hi, rfl⟩ := mem_road hz
    have h := (mem_rdw hx ho (by omega) hd).1
    have : ∀ y ∈ alph, y < 128 := by decide
    exact this d h
  · rw [wrd_eq ho i (by omega)]
    have := flat_le (f := wd (nwL wl) (o.take i)) (fun c => wd_le wl (fun d hd => hod d (List.mem_of_mem_take hd)) c) x
    have := hx.2
    omega
  · rw [dst_eq hW hx ho hij (by omega), mil_eq ho i (by omega), mil_eq ho j (by omega)]
    have := gd_sum (wl := wl) (x := x) (o := o) hij
    omega
  · rw [mil_eq ho i (by omega), mil_eq ho j (by omega)]
    have := gd_sum (wl := wl) (x := x) (o := o) hij
    omega
  · rw [mil_eq ho 3 (by omega)]
    have := gn_le wl (o.take 3) x
    have := hx.2
    omega
  · split
    · rename_i h
      rw [h]
      show D csc [33] [63] = 2
      rw [D_cc, csc_bq, D_nil csc [], D_nil csc [63], D_nil' csc [33]]
      decide
    · rename_i h
      exact D_shift csc csc_symm h (fun y hy => (csc_bang y (mem_rdw hx ho (by omega) hy).1).1) (fun y hy => (csc_bang y (mem_rdw hx ho (by omega) hy).1).2) csc_bq csc_self
end Mine
open PySem PySem.W PyProof.Rows PySem.Calls
set_option Elab.async false
set_option maxRecDepth 100000
set_option maxHeartbeats 4000000
namespace Mine
section
variable {S : Shared} {w : World} {A : Around} {h h' h₀ : Heap} {env : Env} {L : Nat} {m mg mb : Str → Option Value} {l l' c c' : List (Str × Value)} {cs : List (Str × Nat)} {ps : Array Value}
theorem law_list : bodyOf (stm 14) = [lawS 0, lawS 1, lawS 2, lawS 3, lawS 4, lawS 5, lawS 6, lawS 7, lawS 8, lawS 9, lawS 10, lawS 11, lawS 12, lawS 13, lawS 14, lawS 15, lawS 16, lawS 17, lawS 18, lawS 19, lawS 20, lawS 21, lawS 22, lawS 23, lawS 24] := rfl
theorem law_body {n ls : Nat} {ns : List Int} {Q : Flow → Heap → Prop} (G : Gl w mg mb h₀) (Z : Lm h₀ mg) (O : OkA n A) (hn : n ≤ 40) (X : LS h₀ L h [("script", .ref ls)] [] #[]) (hs : IL h ls ns) (hl : ns.length ≤ 63)
    (q : ∀ h', Grow h₀ h' → GrownAt 67 h' → Q (.ret (.bool true)) h') : W S w A (execs (bodyOf (stm 14)) (lawE L)) Q h := by
  rw [law_list]
  refine rSeq (law_s0 G O X hs hl fun h₁ na nums X₁ p₁ N₁ h6 => nx_next ?_)
  refine rSeq (law_s1 G O X₁ (hs.lp p₁) hl fun h₂ z tz X₂ p₂ => nx_next ?_)
  refine rSeq (law_s2 O X₂ rfl (N₁.lp p₂) h6 fun h₃ x tx X₃ p₃ hx => nx_next ?_)
  refine rSeq (law_s3 X₃ rfl fun h₄ o to X₄ p₄ ho => nx_next ?_)
  refine rSeq (law_s4 X₄ rfl fun h₅ rc tr X₅ p₅ hr0 hr14 => nx_next ?_)
  refine rSeq (law_s5 O X₅ rfl ((((N₁.lp p₂).lp p₃).lp p₄).lp p₅) h6 fun h₆ wa wl X₆ p₆ W₆ hW => nx_next ?_)
  refine rSeq (law_s6 G O X₆ rfl W₆ hW fun h₇ nwa X₇ p₇ N₇ => nx_next ?_)
  refine rSeq (law_s7 X₇ fun h₈ pa X₈ p₈ P₈ => nx_next ?_)
  refine rSeq (law_s8 X₈ fun h₉ ma X₉ p₉ M₉ => nx_next ?_)
  have P := pl_of hW hx ho
  refine rSeq (law_s9 G O hW hx ho X₉.nol ⟨((W₆.lp p₇).lp p₈).lp p₉, (N₇.lp p₈).lp p₉, P₈.lp p₉, M₉⟩ fun h₁₀ pa ma X₁₀ p₁₀ B₁₀ => nx_next ?_)
  refine rSeq (law_s10 G O (by omega) hx ho X₁₀ B₁₀ fun h₁₁ ra X₁₁ p₁₁ R₁₁ => nx_next ?_)
  have B₁₁ := B₁₀.lp p₁₁
  refine rSeq (law_s11 G O (by omega) hx ho X₁₁ B₁₁ R₁₁ P.wrd P.cod fun h₁₂ g₁₂ => nx_next ?_)
  have X₁₂ := X₁₁.grow g₁₂
  have M₁₂ := B₁₁.m.il.grow g₁₂
  have R₁₂ := R₁₁.grow g₁₂
  refine rSeq (law_s12 G O (by omega) P X₁₂ R₁₂ fun h₁₃ aa X₁₃ p₁₃ A₁₃ => nx_next ?_)
  refine rSeq (law_s13 G O (by omega) P X₁₃ (R₁₂.lp p₁₃) fun h₁₄ ba X₁₄ p₁₄ B₁₄ => nx_next ?_)
  have M₁₄ := (M₁₂.lp p₁₃).lp p₁₄
  have R₁₄ := (R₁₂.lp p₁₃).lp p₁₄
  have A₁₄ := A₁₃.lp p₁₄
  refine rSeq (law_s14 O (by omega) X₁₄ M₁₄ A₁₄ B₁₄ fun h₁₅ g₁₅ => nx_next ?_)
  refine rSeq (law_s15 G O (by omega) P (X₁₄.grow g₁₅) (M₁₄.grow g₁₅) (R₁₄.grow g₁₅) fun h₁₆ g₁₆ => nx_next ?_)
  have gg := g₁₅.trans g₁₆
  refine rSeq (law_s16 G O (by omega) P (X₁₄.grow gg) (R₁₄.grow gg) fun h₁₇ ts X₁₇ p₁₇ => nx_next ?_)
  have q₁₇ := (LP.of_grow gg).trans p₁₇
  refine rSeq (law_s17 (n := 0) P X₁₇ (R₁₄.lp q₁₇) rfl (nx_next ?_))
  refine rSeq (law_s18 G Z O hn P (X₁₇.subl (l' := [("ahead", .ref aa), ("back", .ref ba)]) (fun p hp => List.mem_append_left [(Str.ofString "shifted", _)] hp)) (R₁₄.lp q₁₇) fun h₁₈ r tk cc X₁₈ p₁₈ hr4 hb1 hb2 => nx_next ?_)
  have q₁₈ := q₁₇.trans p₁₈
  refine rSeq (law_s19 G O X₁₈ (M₁₄.lp q₁₈) rfl hr4 hb1 hb2 fun h₁₉ g₁₉ => nx_next ?_)
  refine rSeq (law_s20 G O hn P (X₁₈.grow g₁₉) ((M₁₄.lp q₁₈).grow g₁₉) ((A₁₄.lp q₁₈).grow g₁₉) rfl fun h₂₀ g₂₀ => nx_next ?_)
  have g₁₈₂₀ := g₁₉.trans g₂₀
  have q₂₀ := q₁₈.trans (LP.of_grow g₁₈₂₀)
  refine rSeq (law_s21 (X₁₈.grow g₁₈₂₀) (B₁₄.lp q₂₀) rfl fun h₂₁ hf th X₂₁ p₂₁ => nx_next ?_)
  have q₂₁ := q₂₀.trans p₂₁
  refine rSeq (law_s22 G O hn P X₂₁ (A₁₄.lp q₂₁) fun h₂₂ tn tt X₂₂ p₂₂ ht4 ht1 ht2 => nx_next ?_)
  have q₂₂ := q₂₁.trans p₂₂
  refine rSeq (law_s23 G O X₂₂ (M₁₄.lp q₂₂) rfl ht4 ht1 ht2 fun h₂₃ g₂₃ => nx_next ?_)
  exact rSeq (law_s24 G Z O hn P (X₂₂.grow g₂₃) ((R₁₄.lp q₂₂).grow g₂₃) rfl ht4 ht1 ht2 fun h₂₄ ps' X₂₄ => nx_ret (q h₂₄ X₂₄.lo.keep ⟨ps', X₂₄.tb⟩))
end
end Mine
open PySem PySem.W PyProof.Rows PySem.Calls
set_option Elab.async false
set_option maxRecDepth 100000
set_option maxHeartbeats 4000000
namespace Mine
theorem gLaw (w : World) : nsIn (KK w) mainGlobals "law" = some (some (.ref 70)) := by kernel_rfl
theorem law_code {s : Shared} {w : World} {mg mb : Str → Option Value} {ls : Nat} {ns : List Int} {R : Result → Shared → Prop} (G : Gl w mg mb s.heap) (Gg : Gl w mg mb (ghostOf s.heap [(69, 67)])) (hT : TabsAt [(69, 67)] s.heap)
    (hb : (ghostOf s.heap [(69, 67)]).BuiltinsAt mg 67) (hs : IL s.heap ls ns) (hl : ns.length ≤ 63)
    (q : ∀ h' tk, Grow (ghostOf s.heap [(69, 67)]) h' → GrownAt 67 h' → R (.ok (.ret (.bool true))) { s with heap := h', toks := tk }) :
    codeAny (model PG w) callerA (.call (.ref 70) ⟨[.ref ls], []⟩) R s := by
  refine codeAny_call_cells (fd := lawFd) (binds := [("script", .ref ls)]) (by decide) (G.k _ _ (look_law w)) rfl G.nl (codeRec_of G.k (by kernel_rfl)) rfl rfl rfl (mem_forall_cons (.inl rfl) nofun) (fun s₁ X => ?_) rfl rfl rfl
  obtain ⟨h₁, tk, rfl, _⟩ := X.done
  have k₁ : Grow s.heap h₁ := X.toInCall.keep
  have gh : Grow (ghostOf s.heap [(69, 67)]) s.heap := fun b o e => of_hideAll _ e
  have hz : (ghostOf s.heap [(69, 67)]).objs.size = s.heap.objs.size := hideAll_size _ _
  have t67 : s.heap.get? 67 = some (tabObj #[]) := (hT (69, 67) (.head _)).2
  have Z : Lm (ghostOf s.heap [(69, 67)]) mg := ⟨(ghost_code hT).1, hb, hideAll_none _ (List.mem_singleton.mpr rfl)⟩
  have O0 : OkA 0 callerA := ⟨rfl, by decide, by decide⟩
  have O : OkA 1 (callerA.deeper (lawE s.heap.objs.size)) := O0.deeper
  have LSx : LS (ghostOf s.heap [(69, 67)]) s.heap.objs.size h₁ [("script", .ref ls)] [] #[] :=
    ⟨⟨_, ⟨X.toInCall.ns, gh.trans k₁, Nat.le_of_eq hz⟩, mem_forall_cons rfl nofun⟩, ⟨_, ⟨X.cell, X.apart, X.above⟩, nofun⟩, k₁ _ _ t67, Heap.lt_size t67⟩
  refine (law_body (S := s) Gg Z O (by omega) LSx (hs.grow k₁) hl (Q := fun f h' => f = .ret (.bool true) ∧ Grow (ghostOf s.heap [(69, 67)]) h' ∧ GrownAt 67 h') fun h' g gr => ⟨rfl, g, gr⟩).run fun f h' tk' q' => ?_
  obtain ⟨rfl, g, gr⟩ := q'
  exact q h' tk' g gr
end Mine
open PySem PySem.W PyProof.Rows
set_option Elab.async false
set_option maxRecDepth 100000
set_option maxHeartbeats 8000000
theorem PySem.Challenge.cw_pk0081_01_holds : PySem.Challenge.rw_pk0081_01.Holds :=
  Mine.hd (by
  k_fill
  intro w s₀ s₁ mg mb G Y fa o pm cd doc dV kV ho hd hcd hD hmg hg args vals as hpre hlay hrd hwl hlo
  have KX := km_in_of Y
  km_tabs Y
  have X := (Ground.X G).1
  have V := (Ground.X G).2
  refine Ground.open G ?_
  intro T B D TE TW
  have hfa : fa = 70 := Value.ref.inj (Option.some.inj (hmg.symm.trans (mg_of KX T.g (Mine.gLaw w))))
  try (refine guard_noD D (by decide +kernel) ?_; clear D)
  km_lay T hmg ho hd cd
  clear hmg
  wrow_args hpre hlay hrd hwl hlo
  clear hcd hd hD ho
  subst hfa
  rename PySem.Heap.IsList _ _ _ => hL
  rename PyProof.Rows.IntsAre _ _ => hI
  rename ¬ ((63 : Int) < _) => hc63
  refine enter_call ?_
  kn_posts
  have fr : mg "len" = none ∧ mg "range" = none ∧ mg "list" = none ∧ mg "sum" = none ∧ mg "min" = none :=
    ⟨T.free _ (by decide +kernel) (by decide +kernel) (by decide +kernel) (by decide +kernel) (by decide +kernel), T.free _ (by decide +kernel) (by decide +kernel) (by decide +kernel) (by decide +kernel) (by decide +kernel), T.free _ (by decide +kernel) (by decide +kernel) (by decide +kernel) (by decide +kernel) (by decide +kernel), T.free _ (by decide +kernel) (by decide +kernel) (by decide +kernel) (by decide +kernel) (by decide +kernel), T.free _ (by decide +kernel) (by decide +kernel) (by decide +kernel) (by decide +kernel) (by decide +kernel)⟩
  have GL : Mine.Gl w mg mb s₁.heap := ⟨KX, T.g, T.b, T.nolimit, fr, T.builtins⟩
  have T' := ghost_top hT9 T
  have KX' : (Mine.KK w).In (ghostOf s₁.heap [(69, 67)]) := ghost_K hT9 KX (by kernel_rfl)
  have GG : Mine.Gl w mg mb (ghostOf s₁.heap [(69, 67)]) := ⟨KX', T'.g, T'.b, T'.nolimit, fr, T'.builtins⟩
  obtain ⟨bm, ob, b1, b2, b3, b4, b5, b6⟩ := T'.bmain
  have n67 : (ghostOf s₁.heap [(69, 67)]).get? 67 = none := hideAll_none _ (List.mem_singleton.mpr rfl)
  have hbG : bm ≠ mainGlobals := fun q => by
    obtain ⟨o, es, ep, e, hd, _⟩ := T'.g
    rw [q, e] at b3; cases b3; rw [hd] at b6; cases b6
  have hb67 : bm ≠ 67 := fun q => by rw [q, n67] at b3; cases b3
  refine Mine.law_code GL GG hT9 ⟨bm, ob, b1, b2, hbG, hb67, b3, b4, b5, b6⟩ ⟨_, hL, hI⟩ (by omega) fun h' tk g gr => ⟨⟨.inl ⟨.bool true, .bool true, [], rfl, fun _ => rfl, .bool true, ?_, fun _ => ⟨.nil, nofun⟩⟩, g, rfl, hg⟩, gr, trivial⟩
  kernel_rfl)
