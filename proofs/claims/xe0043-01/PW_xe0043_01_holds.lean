import PyProof.Rows.All
import Wide.All
import OpenK.AllK
import Wide.FinOn
import KE.KNest
import PySem.Challenge.RW_xe0043_01
open PySem PySem.W PyProof.Rows PySem.Spec PySem.Calls
set_option Elab.async false
set_option linter.unusedVariables false
set_option maxRecDepth 100000
set_option bootstrap.genMatcherCode false
set_option genInjectivity false
set_option genSizeOf false
set_option genSizeOfSpec false
namespace Mine
noncomputable section
theorem lt6 {P : Nat → Prop} (h0 : P 0) (h1 : P 1) (h2 : P 2) (h3 : P 3) (h4 : P 4) (h5 : P 5) : ∀ k : Nat, k < 6 → P k
  | 0, _ => h0
  | 1, _ => h1
  | 2, _ => h2
  | 3, _ => h3
  | 4, _ => h4
  | 5, _ => h5
theorem len1 {α : Type} {P : List α → Prop} (h : ∀ a, P [a]) : ∀ vs : List α, vs.length = 1 → P vs
  | [a], _ => h a
theorem len2 {α : Type} {P : List α → Prop} (h : ∀ a b, P [a, b]) : ∀ vs : List α, vs.length = 2 → P vs
  | [a, b], _ => h a b
theorem len3 {α : Type} {P : List α → Prop} (h : ∀ a b c, P [a, b, c]) : ∀ vs : List α, vs.length = 3 → P vs
  | [a, b, c], _ => h a b c
theorem len4 {α : Type} {P : List α → Prop} (h : ∀ a b c d, P [a, b, c, d]) : ∀ vs : List α, vs.length = 4 → P vs
  | [a, b, c, d], _ => h a b c d
theorem len5 {α : Type} {P : List α → Prop} (h : ∀ a b c d e, P [a, b, c, d, e]) : ∀ vs : List α, vs.length = 5 → P vs
  | [a, b, c, d, e], _ => h a b c d e
theorem sA {p0 : Prop} {p1 : Prop} {G : Prop} (h : p0 ∧ (p1)) (k : p0 → p1 → G) : G := let ⟨y0, y1⟩ := h; k y0 y1
theorem sE {α0 : Sort _} {p1 : α0 → Prop} {G : Prop} (h : ∃ x0 : α0, p1 x0) (k : (x0 : α0) → p1 x0 → G) : G := let ⟨y0, y1⟩ := h; k y0 y1
theorem sAA {p0 : Prop} {p1 : Prop} {p2 : Prop} {G : Prop} (h : p0 ∧ (p1 ∧ (p2))) (k : p0 → p1 → p2 → G) : G := let ⟨y0, y1, y2⟩ := h; k y0 y1 y2
theorem sAE {p0 : Prop} {α1 : Sort _} {p2 : α1 → Prop} {G : Prop} (h : p0 ∧ (∃ x1 : α1, p2 x1)) (k : p0 → (x1 : α1) → p2 x1 → G) : G := let ⟨y0, y1, y2⟩ := h; k y0 y1 y2
theorem sEA {α0 : Sort _} {p1 : α0 → Prop} {p2 : α0 → Prop} {G : Prop} (h : ∃ x0 : α0, p1 x0 ∧ (p2 x0)) (k : (x0 : α0) → p1 x0 → p2 x0 → G) : G := let ⟨y0, y1, y2⟩ := h; k y0 y1 y2
theorem sEE {α0 : Sort _} {α1 : Sort _} {p2 : α0 → α1 → Prop} {G : Prop} (h : ∃ x0 : α0, ∃ x1 : α1, p2 x0 x1) (k : (x0 : α0) → (x1 : α1) → p2 x0 x1 → G) : G := let ⟨y0, y1, y2⟩ := h; k y0 y1 y2
theorem sAAA {p0 : Prop} {p1 : Prop} {p2 : Prop} {p3 : Prop} {G : Prop} (h : p0 ∧ (p1 ∧ (p2 ∧ (p3)))) (k : p0 → p1 → p2 → p3 → G) : G := let ⟨y0, y1, y2, y3⟩ := h; k y0 y1 y2 y3
theorem sAEA {p0 : Prop} {α1 : Sort _} {p2 : α1 → Prop} {p3 : α1 → Prop} {G : Prop} (h : p0 ∧ (∃ x1 : α1, p2 x1 ∧ (p3 x1))) (k : p0 → (x1 : α1) → p2 x1 → p3 x1 → G) : G := let ⟨y0, y1, y2, y3⟩ := h; k y0 y1 y2 y3
theorem sEAA {α0 : Sort _} {p1 : α0 → Prop} {p2 : α0 → Prop} {p3 : α0 → Prop} {G : Prop} (h : ∃ x0 : α0, p1 x0 ∧ (p2 x0 ∧ (p3 x0))) (k : (x0 : α0) → p1 x0 → p2 x0 → p3 x0 → G) : G := let ⟨y0, y1, y2, y3⟩ := h; k y0 y1 y2 y3
theorem sEAE {α0 : Sort _} {p1 : α0 → Prop} {α2 : Sort _} {p3 : α0 → α2 → Prop} {G : Prop} (h : ∃ x0 : α0, p1 x0 ∧ (∃ x2 : α2, p3 x0 x2)) (k : (x0 : α0) → p1 x0 → (x2 : α2) → p3 x0 x2 → G) : G := let ⟨y0, y1, y2, y3⟩ := h; k y0 y1 y2 y3
theorem sEEA {α0 : Sort _} {α1 : Sort _} {p2 : α0 → α1 → Prop} {p3 : α0 → α1 → Prop} {G : Prop} (h : ∃ x0 : α0, ∃ x1 : α1, p2 x0 x1 ∧ (p3 x0 x1)) (k : (x0 : α0) → (x1 : α1) → p2 x0 x1 → p3 x0 x1 → G) : G := let ⟨y0, y1, y2, y3⟩ := h; k y0 y1 y2 y3
theorem sEEE {α0 : Sort _} {α1 : Sort _} {α2 : Sort _} {p3 : α0 → α1 → α2 → Prop} {G : Prop} (h : ∃ x0 : α0, ∃ x1 : α1, ∃ x2 : α2, p3 x0 x1 x2) (k : (x0 : α0) → (x1 : α1) → (x2 : α2) → p3 x0 x1 x2 → G) : G := let ⟨y0, y1, y2, y3⟩ := h; k y0 y1 y2 y3
theorem sAEAA {p0 : Prop} {α1 : Sort _} {p2 : α1 → Prop} {p3 : α1 → Prop} {p4 : α1 → Prop} {G : Prop} (h : p0 ∧ (∃ x1 : α1, p2 x1 ∧ (p3 x1 ∧ (p4 x1)))) (k : p0 → (x1 : α1) → p2 x1 → p3 x1 → p4 x1 → G) : G := let ⟨y0, y1, y2, y3, y4⟩ := h; k y0 y1 y2 y3 y4
theorem sAEEA {p0 : Prop} {α1 : Sort _} {α2 : Sort _} {p3 : α1 → α2 → Prop} {p4 : α1 → α2 → Prop} {G : Prop} (h : p0 ∧ (∃ x1 : α1, ∃ x2 : α2, p3 x1 x2 ∧ (p4 x1 x2))) (k : p0 → (x1 : α1) → (x2 : α2) → p3 x1 x2 → p4 x1 x2 → G) : G := let ⟨y0, y1, y2, y3, y4⟩ := h; k y0 y1 y2 y3 y4
theorem sEAAA {α0 : Sort _} {p1 : α0 → Prop} {p2 : α0 → Prop} {p3 : α0 → Prop} {p4 : α0 → Prop} {G : Prop} (h : ∃ x0 : α0, p1 x0 ∧ (p2 x0 ∧ (p3 x0 ∧ (p4 x0)))) (k : (x0 : α0) → p1 x0 → p2 x0 → p3 x0 → p4 x0 → G) : G := let ⟨y0, y1, y2, y3, y4⟩ := h; k y0 y1 y2 y3 y4
theorem sEAAE {α0 : Sort _} {p1 : α0 → Prop} {p2 : α0 → Prop} {α3 : Sort _} {p4 : α0 → α3 → Prop} {G : Prop} (h : ∃ x0 : α0, p1 x0 ∧ (p2 x0 ∧ (∃ x3 : α3, p4 x0 x3))) (k : (x0 : α0) → p1 x0 → p2 x0 → (x3 : α3) → p4 x0 x3 → G) : G := let ⟨y0, y1, y2, y3, y4⟩ := h; k y0 y1 y2 y3 y4
theorem sEAEA {α0 : Sort _} {p1 : α0 → Prop} {α2 : Sort _} {p3 : α0 → α2 → Prop} {p4 : α0 → α2 → Prop} {G : Prop} (h : ∃ x0 : α0, p1 x0 ∧ (∃ x2 : α2, p3 x0 x2 ∧ (p4 x0 x2))) (k : (x0 : α0) → p1 x0 → (x2 : α2) → p3 x0 x2 → p4 x0 x2 → G) : G := let ⟨y0, y1, y2, y3, y4⟩ := h; k y0 y1 y2 y3 y4
theorem sEEAA {α0 : Sort _} {α1 : Sort _} {p2 : α0 → α1 → Prop} {p3 : α0 → α1 → Prop} {p4 : α0 → α1 → Prop} {G : Prop} (h : ∃ x0 : α0, ∃ x1 : α1, p2 x0 x1 ∧ (p3 x0 x1 ∧ (p4 x0 x1))) (k : (x0 : α0) → (x1 : α1) → p2 x0 x1 → p3 x0 x1 → p4 x0 x1 → G) : G := let ⟨y0, y1, y2, y3, y4⟩ := h; k y0 y1 y2 y3 y4
theorem sEEEA {α0 : Sort _} {α1 : Sort _} {α2 : Sort _} {p3 : α0 → α1 → α2 → Prop} {p4 : α0 → α1 → α2 → Prop} {G : Prop} (h : ∃ x0 : α0, ∃ x1 : α1, ∃ x2 : α2, p3 x0 x1 x2 ∧ (p4 x0 x1 x2)) (k : (x0 : α0) → (x1 : α1) → (x2 : α2) → p3 x0 x1 x2 → p4 x0 x1 x2 → G) : G := let ⟨y0, y1, y2, y3, y4⟩ := h; k y0 y1 y2 y3 y4
theorem sEEEE {α0 : Sort _} {α1 : Sort _} {α2 : Sort _} {α3 : Sort _} {p4 : α0 → α1 → α2 → α3 → Prop} {G : Prop} (h : ∃ x0 : α0, ∃ x1 : α1, ∃ x2 : α2, ∃ x3 : α3, p4 x0 x1 x2 x3) (k : (x0 : α0) → (x1 : α1) → (x2 : α2) → (x3 : α3) → p4 x0 x1 x2 x3 → G) : G := let ⟨y0, y1, y2, y3, y4⟩ := h; k y0 y1 y2 y3 y4
theorem sAAAAA {p0 : Prop} {p1 : Prop} {p2 : Prop} {p3 : Prop} {p4 : Prop} {p5 : Prop} {G : Prop} (h : p0 ∧ (p1 ∧ (p2 ∧ (p3 ∧ (p4 ∧ (p5)))))) (k : p0 → p1 → p2 → p3 → p4 → p5 → G) : G := let ⟨y0, y1, y2, y3, y4, y5⟩ := h; k y0 y1 y2 y3 y4 y5
theorem sAEAEA {p0 : Prop} {α1 : Sort _} {p2 : α1 → Prop} {α3 : Sort _} {p4 : α1 → α3 → Prop} {p5 : α1 → α3 → Prop} {G : Prop} (h : p0 ∧ (∃ x1 : α1, p2 x1 ∧ (∃ x3 : α3, p4 x1 x3 ∧ (p5 x1 x3)))) (k : p0 → (x1 : α1) → p2 x1 → (x3 : α3) → p4 x1 x3 → p5 x1 x3 → G) : G := let ⟨y0, y1, y2, y3, y4, y5⟩ := h; k y0 y1 y2 y3 y4 y5
theorem sEAAEA {α0 : Sort _} {p1 : α0 → Prop} {p2 : α0 → Prop} {α3 : Sort _} {p4 : α0 → α3 → Prop} {p5 : α0 → α3 → Prop} {G : Prop} (h : ∃ x0 : α0, p1 x0 ∧ (p2 x0 ∧ (∃ x3 : α3, p4 x0 x3 ∧ (p5 x0 x3)))) (k : (x0 : α0) → p1 x0 → p2 x0 → (x3 : α3) → p4 x0 x3 → p5 x0 x3 → G) : G := let ⟨y0, y1, y2, y3, y4, y5⟩ := h; k y0 y1 y2 y3 y4 y5
theorem sEAEEA {α0 : Sort _} {p1 : α0 → Prop} {α2 : Sort _} {α3 : Sort _} {p4 : α0 → α2 → α3 → Prop} {p5 : α0 → α2 → α3 → Prop} {G : Prop} (h : ∃ x0 : α0, p1 x0 ∧ (∃ x2 : α2, ∃ x3 : α3, p4 x0 x2 x3 ∧ (p5 x0 x2 x3))) (k : (x0 : α0) → p1 x0 → (x2 : α2) → (x3 : α3) → p4 x0 x2 x3 → p5 x0 x2 x3 → G) : G := let ⟨y0, y1, y2, y3, y4, y5⟩ := h; k y0 y1 y2 y3 y4 y5
theorem sEAEEE {α0 : Sort _} {p1 : α0 → Prop} {α2 : Sort _} {α3 : Sort _} {α4 : Sort _} {p5 : α0 → α2 → α3 → α4 → Prop} {G : Prop} (h : ∃ x0 : α0, p1 x0 ∧ (∃ x2 : α2, ∃ x3 : α3, ∃ x4 : α4, p5 x0 x2 x3 x4)) (k : (x0 : α0) → p1 x0 → (x2 : α2) → (x3 : α3) → (x4 : α4) → p5 x0 x2 x3 x4 → G) : G := let ⟨y0, y1, y2, y3, y4, y5⟩ := h; k y0 y1 y2 y3 y4 y5
theorem sEEAAA {α0 : Sort _} {α1 : Sort _} {p2 : α0 → α1 → Prop} {p3 : α0 → α1 → Prop} {p4 : α0 → α1 → Prop} {p5 : α0 → α1 → Prop} {G : Prop} (h : ∃ x0 : α0, ∃ x1 : α1, p2 x0 x1 ∧ (p3 x0 x1 ∧ (p4 x0 x1 ∧ (p5 x0 x1)))) (k : (x0 : α0) → (x1 : α1) → p2 x0 x1 → p3 x0 x1 → p4 x0 x1 → p5 x0 x1 → G) : G := let ⟨y0, y1, y2, y3, y4, y5⟩ := h; k y0 y1 y2 y3 y4 y5
theorem sEEEAA {α0 : Sort _} {α1 : Sort _} {α2 : Sort _} {p3 : α0 → α1 → α2 → Prop} {p4 : α0 → α1 → α2 → Prop} {p5 : α0 → α1 → α2 → Prop} {G : Prop} (h : ∃ x0 : α0, ∃ x1 : α1, ∃ x2 : α2, p3 x0 x1 x2 ∧ (p4 x0 x1 x2 ∧ (p5 x0 x1 x2))) (k : (x0 : α0) → (x1 : α1) → (x2 : α2) → p3 x0 x1 x2 → p4 x0 x1 x2 → p5 x0 x1 x2 → G) : G := let ⟨y0, y1, y2, y3, y4, y5⟩ := h; k y0 y1 y2 y3 y4 y5
inductive V where
  | int (i : Int)
  | bool (b : Bool)
  | str (x : Str)
  | none
  | list (xs : List V)
  | tup (xs : List V)
  | rng (a b : Int)
  | raw (v : Value)
  | inst (c : Addr) (fs : List (Str × V))
  | mtch (t : Str) (sp : List Int)
noncomputable def Le (h h' : Heap) : Prop := ∀ b o, h.get? b = some o → h'.get? b = some o
theorem Le.refl (h : Heap) : Le h h := fun _ _ e => e
theorem Le.trans {a b c : Heap} (x : Le a b) (y : Le b c) : Le a c := fun p o e => y p o (x p o e)
theorem Le.none {a b : Heap} (x : Le a b) {p : Addr} (h : b.get? p = none) : a.get? p = none := by
  cases e : a.get? p with
  | none => rfl
  | some o => rw [x p o e] at h; cases h
mutual
inductive R (h : Heap) : V → Value → Prop
  | int (i : Int) (t : Tok) : R h (.int i) (.int i t)
  | bool (b : Bool) : R h (.bool b) (.bool b)
  | str (x : Str) (t : Tok) : R h (.str x) (.str x t)
  | none : R h .none .none
  | list {xs : List V} {vs : List Value} {a : Addr} : h.IsList a vs.toArray → Rs h xs vs → R h (.list xs) (.ref a)
  | tup {xs : List V} {vs : List Value} {a : Addr} : IsTup h a vs.toArray → Rs h xs vs → R h (.tup xs) (.ref a)
  | rng {a b : Int} {r : Addr} {t u v : Tok} : IsRange h r a b 1 t u v → R h (.rng a b) (.ref r)
  | raw (v : Value) : R h (.raw v) v
  | inst {c x dx : Addr} {fs : List (Str × V)} {es : List DictEntry} {n : Nat} : h.get? x = some ⟨.ref c, some dx, .plain, #[]⟩ → h.get? dx = some (dictOf es n) → Rf h fs es → R h (.inst c fs) (.ref x)
  | mtch {t : Str} {sp : List Int} {a b : Addr} {tk : Tok} {p x1 x2 x3 : Value} {n : Nat} : h.get? a = some { cls := .type "re.Match", data := .fields #[.str t tk, p, x1, x2, x3, .ref b] } → h.get? b = some { cls := .type "tuple", data := .seq (sp.map rawInt).toArray n } → R h (.mtch t sp) (.ref a)
inductive Rs (h : Heap) : List V → List Value → Prop
  | nil : Rs h [] []
  | cons {x : V} {v : Value} {xs : List V} {vs : List Value} : R h x v → Rs h xs vs → Rs h (x :: xs) (v :: vs)
inductive Rf (h : Heap) : List (Str × V) → List DictEntry → Prop
  | nil : Rf h [] []
  | cons {x : Str} {t : Tok} {k : Int} {v : Value} {av : V} {fs : List (Str × V)} {es : List DictEntry} : R h av v → Rf h fs es → Rf h ((x, av) :: fs) (⟨k, .str x t, v⟩ :: es)
end
theorem R.intC {h : Heap} {i : Int} {v : Value} {P : Prop} (r : R h (.int i) v) (k : ∀ t, v = .int i t → P) : P := by cases r; exact k _ rfl
theorem R.boolC {h : Heap} {b : Bool} {v : Value} {P : Prop} (r : R h (.bool b) v) (k : v = .bool b → P) : P := by cases r; exact k rfl
theorem R.strC {h : Heap} {x : Str} {v : Value} {P : Prop} (r : R h (.str x) v) (k : ∀ t, v = .str x t → P) : P := by cases r; exact k _ rfl
theorem R.noneC {h : Heap} {v : Value} {P : Prop} (r : R h .none v) (k : v = .none → P) : P := by cases r; exact k rfl
theorem R.rawC {h : Heap} {x v : Value} {P : Prop} (r : R h (.raw x) v) (k : v = x → P) : P := by cases r; exact k rfl
theorem R.listC {h : Heap} {xs : List V} {v : Value} {P : Prop} (r : R h (.list xs) v) (k : ∀ vs a, v = .ref a → h.IsList a vs.toArray → Rs h xs vs → P) : P := by cases r with | list a b => exact k _ _ rfl a b
theorem R.tupC {h : Heap} {xs : List V} {v : Value} {P : Prop} (r : R h (.tup xs) v) (k : ∀ vs a, v = .ref a → IsTup h a vs.toArray → Rs h xs vs → P) : P := by cases r with | tup a b => exact k _ _ rfl a b
theorem R.rngC {h : Heap} {a b : Int} {x : Value} {P : Prop} (r : R h (.rng a b) x) (k : ∀ r t u v, x = .ref r → IsRange h r a b 1 t u v → P) : P := by cases r with | rng e => exact k _ _ _ _ rfl e
theorem R.instC {h : Heap} {c : Addr} {fs : List (Str × V)} {v : Value} {P : Prop} (r : R h (.inst c fs) v) (k : ∀ x dx es n, v = .ref x → h.get? x = some ⟨.ref c, some dx, .plain, #[]⟩ → h.get? dx = some (dictOf es n) → Rf h fs es → P) : P := by cases r with | inst a b c => exact k _ _ _ _ rfl a b c
theorem R.mtchC {h : Heap} {t : Str} {sp : List Int} {v : Value} {P : Prop} (r : R h (.mtch t sp) v) (k : ∀ a b tk p x1 x2 x3 n, v = .ref a → h.get? a = some { cls := .type "re.Match", data := .fields #[.str t tk, p, x1, x2, x3, .ref b] } → h.get? b = some { cls := .type "tuple", data := .seq (sp.map rawInt).toArray n } → P) : P := by cases r with | mtch a b => exact k _ _ _ _ _ _ _ _ rfl a b
theorem Rs.nilC {h : Heap} {us : List Value} {P : Prop} (r : Rs h [] us) (k : us = [] → P) : P := by cases r; exact k rfl
theorem Rs.consC {h : Heap} {x : V} {xs : List V} {us : List Value} {P : Prop} (r : Rs h (x :: xs) us) (k : ∀ v vs, us = v :: vs → R h x v → Rs h xs vs → P) : P := by cases r with | cons a b => exact k _ _ rfl a b
theorem nn0 {α : Type} {x : α} {P : Prop} (h : (none : Option α) = some x) : P := nomatch h
theorem nn1 {α : Type} {x : α} {P : Prop} (h : some x = (none : Option α)) : P := nomatch h
theorem nn2 {P : Prop} (h : false = true) : P := nomatch h
theorem nn3 {P : Prop} (h : true = false) : P := nomatch h
theorem nn4 {α : Type} {a : α} {P : Prop} (h : a ∈ ([] : List α)) : P := nomatch h
theorem inj2 {α β : Type} {x y : α} {f g : β} {P : α → β → Prop} (h : some (x, f) = some (y, g)) (k : P x f) : P y g := by
  have e := Option.some.inj h
  have e1 : x = y := congrArg Prod.fst e
  have e2 : f = g := congrArg Prod.snd e
  subst e1; subst e2; exact k
theorem inj1 {α : Type} {x y : α} {P : α → Prop} (h : some x = some y) (k : P x) : P y := Option.some.inj h ▸ k
theorem IsList_up {h h' : Heap} (k : Le h h') {a : Addr} {us : Array Value} (x : h.IsList a us) : h'.IsList a us := Exists.elim x fun o z => ⟨o, k _ _ z.1, z.2⟩
theorem IsTup_up {h h' : Heap} (k : Le h h') {a : Addr} {us : Array Value} (x : IsTup h a us) : IsTup h' a us := Exists.elim x fun o z => ⟨o, k _ _ z.1, z.2⟩
theorem R.mono {h h' : Heap} (k : Le h h') {x : V} {v : Value} (r : R h x v) : R h' x v :=
  R.rec (motive_1 := fun x v _ => R h' x v) (motive_2 := fun xs vs _ => Rs h' xs vs) (motive_3 := fun fs es _ => Rf h' fs es)
    (fun i t => .int i t) (fun b => .bool b) (fun x t => .str x t) .none (fun hl _ ih => .list (IsList_up k hl) ih) (fun hl _ ih => .tup (IsTup_up k hl) ih) (fun e => .rng (k _ _ e)) (fun v => .raw v)
    (fun e1 e2 _ ih => .inst (k _ _ e1) (k _ _ e2) ih) (fun e1 e2 => .mtch (k _ _ e1) (k _ _ e2)) .nil (fun _ _ a b => .cons a b) .nil (fun _ _ a b => .cons a b) r
theorem Rs.mono {h h' : Heap} (k : Le h h') {xs : List V} {vs : List Value} (r : Rs h xs vs) : Rs h' xs vs := by
  induction xs generalizing vs with
  | nil => refine Rs.nilC r fun e => ?_; subst e; exact .nil
  | cons x xs ih => refine Rs.consC r fun v vs e a b => ?_; subst e; exact .cons (a.mono k) (ih b)
theorem Rf.mono {h h' : Heap} (k : Le h h') {fs : List (Str × V)} {es : List DictEntry} (r : Rf h fs es) : Rf h' fs es := by
  induction fs generalizing es with
  | nil => cases r; exact .nil
  | cons x xs ih => cases r with | cons a b => exact .cons (a.mono k) (ih b)
theorem Rs.length {h : Heap} {xs : List V} {vs : List Value} (r : Rs h xs vs) : xs.length = vs.length := by
  induction xs generalizing vs with
  | nil => refine Rs.nilC r fun e => ?_; subst e; rfl
  | cons x xs ih => refine Rs.consC r fun v vs e a b => ?_; subst e; exact congrArg Nat.succ (ih b)
theorem Rs.get {h : Heap} {xs : List V} {vs : List Value} (r : Rs h xs vs) {i : Nat} {x : V} (e : xs[i]? = some x) : ∃ v, vs[i]? = some v ∧ R h x v := by
  induction xs generalizing vs i with
  | nil => exact nn0 e
  | cons y xs ih =>
    refine Rs.consC r fun v vs e2 a b => ?_
    subst e2
    cases i with
    | zero => exact ⟨v, rfl, Option.some.inj e ▸ a⟩
    | succ i => exact ih b e
theorem Rs.get' {h : Heap} {xs : List V} {vs : List Value} (r : Rs h xs vs) {i : Nat} {v : Value} (e : vs[i]? = some v) : ∃ x, xs[i]? = some x ∧ R h x v := by
  induction xs generalizing vs i with
  | nil => refine Rs.nilC r fun e2 => ?_; subst e2; exact nn0 e
  | cons y xs ih =>
    refine Rs.consC r fun w vs e2 a b => ?_
    subst e2
    cases i with
    | zero => exact ⟨y, rfl, Option.some.inj e ▸ a⟩
    | succ i => exact ih b e
theorem Rs.append {h : Heap} {xs ys : List V} {vs us : List Value} (r : Rs h xs vs) (q : Rs h ys us) : Rs h (xs ++ ys) (vs ++ us) := by
  induction xs generalizing vs with
  | nil => refine Rs.nilC r fun e => ?_; subst e; exact q
  | cons x xs ih => refine Rs.consC r fun v vs e a b => ?_; subst e; exact .cons a (ih b)
theorem Rs.drop {h : Heap} {xs : List V} {vs : List Value} (r : Rs h xs vs) (n : Nat) : Rs h (xs.drop n) (vs.drop n) := by
  induction xs generalizing vs n with
  | nil => refine Rs.nilC r fun e => ?_; subst e; rw [List.drop_nil, List.drop_nil]; exact .nil
  | cons x xs ih =>
    refine Rs.consC r fun v vs e a b => ?_
    subst e
    cases n with
    | zero => exact .cons a b
    | succ n => exact ih b n
theorem Rs.take {h : Heap} {xs : List V} {vs : List Value} (r : Rs h xs vs) (n : Nat) : Rs h (xs.take n) (vs.take n) := by
  induction xs generalizing vs n with
  | nil => refine Rs.nilC r fun e => ?_; subst e; rw [List.take_nil, List.take_nil]; exact .nil
  | cons x xs ih =>
    refine Rs.consC r fun v vs e a b => ?_
    subst e
    cases n with
    | zero => exact .nil
    | succ n => exact .cons a (ih b n)
theorem Rs.set {h : Heap} {xs : List V} {vs : List Value} (r : Rs h xs vs) (n : Nat) {x : V} {v : Value} (q : R h x v) : Rs h (xs.set n x) (vs.set n v) := by
  induction xs generalizing vs n with
  | nil => refine Rs.nilC r fun e => ?_; subst e; exact .nil
  | cons y xs ih =>
    refine Rs.consC r fun w vs e a b => ?_
    subst e
    cases n with
    | zero => exact .cons q b
    | succ n => exact .cons a (ih b n)
noncomputable def V.flat : V → Bool
  | .int _ | .bool _ | .str _ | .none | .raw _ => true
  | _ => false
theorem R.of_flat {h h' : Heap} {x : V} {v : Value} (f : x.flat = true) (r : R h x v) : R h' x v := by
  cases r <;> first | exact .int .. | exact .bool .. | exact .str .. | exact .none | exact .raw _ | cases f
theorem Rs.of_flat {h h' : Heap} {xs : List V} {vs : List Value} (f : xs.all V.flat = true) (r : Rs h xs vs) : Rs h' xs vs := by
  induction xs generalizing vs with
  | nil => refine Rs.nilC r fun e => ?_; subst e; exact .nil
  | cons x xs ih =>
    refine Rs.consC r fun v vs e a b => ?_
    subst e
    rw [List.all_cons, Bool.and_eq_true] at f
    exact .cons (a.of_flat f.1) (ih f.2 b)
theorem Le.hide (h : Heap) (W : List Addr) : Le (hideAll h W) h := fun _ _ e => of_hideAll W e
theorem hide_get {h : Heap} {W : List Addr} {b : Addr} {o : Obj} (e : (hideAll h W).get? b = some o) : h.get? b = some o ∧ b ∉ W :=
  ⟨of_hideAll W e, fun m => by rw [hideAll_none W m] at e; cases e⟩
theorem Le.hides {h h' : Heap} {W W' : List Addr} (k : ∀ b o, h.get? b = some o → b ∉ W → h'.get? b = some o ∧ b ∉ W') : Le (hideAll h W) (hideAll h' W') := fun b o e => by
  refine sA (hide_get e) fun e1 e2 => ?_
  refine sA (k b o e1 e2) fun e3 e4 => ?_
  exact hideAll_get W' e3 e4
theorem Le.hides_same {h h' : Heap} {W : List Addr} (k : Le h h') : Le (hideAll h W) (hideAll h' W) := Le.hides fun b o e n => ⟨k b o e, n⟩
theorem Le.hides_sub {h : Heap} {W W' : List Addr} (k : ∀ a ∈ W', a ∈ W) : Le (hideAll h W) (hideAll h W') := Le.hides fun _ _ e n => ⟨e, fun m => n (k _ m)⟩
structure U where
  prog : Program
  w : World
  K : Frag
  G : List (Str × Value)
  B : List (Str × Value)
structure Base (u : U) (hb : Heap) : Prop where
  X : u.K.In hb
  lim : hb.NoLimit
  T : ∃ mg mb, hb.Ns mainGlobals mg ∧ hb.Ns builtinsNs mb ∧ (∀ x v, u.G.lookup x = some v → mg x = some v) ∧ ∀ x v, u.B.lookup x = some v → mg x = none ∧ mb x = some v
structure LeB (hb h : Heap) : Prop where
  le : Le hb h
  size : hb.objs.size ≤ h.objs.size
structure Room (n : Nat) (A : Around) : Prop where
  depth : A.depth + n < recursionLimit
  units : A.units + 8 * n + 200 < cLine
  handled : A.handled = none
theorem Room.less {n m : Nat} {A : Around} (r : Room n A) (h : m ≤ n) : Room m A := ⟨by have := r.depth; omega, by have := r.units; omega, r.handled⟩
theorem Room.in1 {n : Nat} {A : Around} (r : Room (n + 1) A) : Room n A.in1 := ⟨by have := r.depth; show A.depth + n < _; omega, by have := r.units; show A.units + 1 + 8 * n + 200 < _; omega, r.handled⟩
theorem Room.deeper {n : Nat} {A : Around} {env : Env} (r : Room (n + 1) A) : Room n (A.deeper env) := ⟨by have := r.depth; show A.depth + 1 + n < _; omega, by have := r.units; show A.units + 3 + 8 * n + 200 < _; omega, r.handled⟩
theorem Room.dep {n : Nat} {A : Around} (r : Room n A) : A.depth < recursionLimit := by have := r.depth; omega
theorem Room.uni {n : Nat} {A : Around} (r : Room n A) : A.units < cLine := by have := r.units; omega
noncomputable abbrev NoE : Value → Shared → Prop := fun _ _ => False
theorem ex {α : Type} {M : Model} {A : Around} {t : Sem α} {Q Q' : α → Shared → Prop} {E : Value → Shared → Prop} {s : Shared} (h : wpAny M A t Q NoE s) (hQ : ∀ a s', Q a s' → Q' a s') : wpAny M A t Q' E s :=
  wpAny_mono h hQ fun _ _ f => f.elim
noncomputable def Kp (s s' : Shared) : Prop := Keeps s s'
theorem Kp.le {s s' : Shared} (k : Kp s s') : Le s.heap s'.heap := by
  refine sEEA k fun h' tk z1 e => ?_; try clear k; (first | subst z1 | cases (z1))
  exact e
theorem Kp.refl (s : Shared) : Kp s s := ⟨s.heap, s.toks, rfl, fun _ _ e => e⟩
theorem Kp.trans {a b c : Shared} (x : Kp a b) (y : Kp b c) : Kp a c := by
  refine sEEA x fun h1 t1 z2 e1 => ?_; try clear x; (first | subst z2 | cases (z2))
  refine sEEA y fun h2 t2 z3 e2 => ?_; try clear y; (first | subst z3 | cases (z3))
  exact ⟨h2, t2, rfl, fun b o e => e2 b o (e1 b o e)⟩
theorem Kp.tok (s : Shared) (t : Nat) : Kp s { s with toks := t } := ⟨s.heap, t, rfl, fun _ _ e => e⟩
theorem Kp.heap (s : Shared) {h : Heap} (e : Le s.heap h) : Kp s { s with heap := h } := ⟨h, s.toks, rfl, e⟩
theorem Kp.both (s : Shared) {h : Heap} (t : Nat) (e : Le s.heap h) : Kp s { s with heap := h, toks := t } := ⟨h, t, rfl, e⟩
theorem Le.push (h : Heap) (o : Obj) : Le h (h.push o) := fun _ _ e => Heap.get?_push_of_some _ e
theorem fresh_size (h : Heap) : h.get? h.objs.size = none := by
  cases e : h.get? h.objs.size with
  | none => rfl
  | some o => exact absurd (Heap.lt_size e) (Nat.lt_irrefl _)
structure Nm where
  slots : List (Str × NameKind)
  globs : List Str
structure Dy where
  hb : Heap
  he : Heap
  A : Around
  W : List Addr
  env : Env
  slf : List (Addr × Addr) := []
inductive SV where
  | unset
  | val (v : V)
  | own (p : Bool) (xs : List V)
  | self (c : Addr) (fs : List (Str × V))
inductive CS where
  | unset
  | val (u : Value)
  | own (a : Addr)
  | self (x dx : Addr)
noncomputable def CS.value : CS → Option Value
  | .unset => .none
  | .val u => some u
  | .own a => some (.ref a)
  | .self x _ => some (.ref x)
noncomputable def CS.adr : CS → List Addr
  | .own a => [a]
  | .self x dx => [x, dx]
  | _ => []
noncomputable def OwnL (p : Bool) (h : Heap) (a : Addr) (us : Array Value) : Prop := ∃ o, h.get? a = some o ∧ o.cls = .type "list" ∧ ∃ n, o.data = .seq us n ∧ (p = true → o = { cls := .type "list", data := .seq us n })
theorem OwnL.isList {p : Bool} {h : Heap} {a : Addr} {us : Array Value} (x : OwnL p h a us) : h.IsList a us := let ⟨o, e, c, n, d, _⟩ := x; ⟨o, e, c, n, d⟩
theorem OwnL.plain {h : Heap} {a : Addr} {us : Array Value} (x : OwnL true h a us) : h.PlainList a us := let ⟨o, e, c, n, d, q⟩ := x; ⟨n, by rw [e, q rfl]⟩
theorem OwnL.of_plain {p : Bool} {h : Heap} {a : Addr} {us : Array Value} (x : h.PlainList a us) : OwnL p h a us := let ⟨n, e⟩ := x; ⟨_, e, rfl, n, rfl, fun _ => rfl⟩
theorem OwnL.of_list {h : Heap} {a : Addr} {us : Array Value} (x : h.IsList a us) : OwnL false h a us := let ⟨o, e, c, n, d⟩ := x; ⟨o, e, c, n, d, fun z => by cases z⟩
inductive SR (h hW : Heap) : SV → CS → Prop
  | unset : SR h hW .unset .unset
  | val {v : V} {u : Value} : R hW v u → SR h hW (.val v) (.val u)
  | own {p : Bool} {xs : List V} {us : List Value} {a : Addr} : OwnL p h a us.toArray → Rs hW xs us → SR h hW (.own p xs) (.own a)
  | self {c x dx : Addr} {fs : List (Str × V)} {es : List DictEntry} {n : Nat} : h.get? x = some ⟨.ref c, some dx, .plain, #[]⟩ → h.get? dx = some (dictOf es n) → Rf hW fs es → SR h hW (.self c fs) (.self x dx)
theorem SR.valC {h hW : Heap} {v : V} {c : CS} {P : Prop} (r : SR h hW (.val v) c) (k : ∀ u, c = .val u → R hW v u → P) : P := by cases r with | val a => exact k _ rfl a
theorem SR.ownC {h hW : Heap} {p : Bool} {xs : List V} {c : CS} {P : Prop} (r : SR h hW (.own p xs) c) (k : ∀ us a, c = .own a → OwnL p h a us.toArray → Rs hW xs us → P) : P := by cases r with | own a b => exact k _ _ rfl a b
theorem SR.ownD {h hW : Heap} {sv : SV} {a : Addr} {P : Prop} (r : SR h hW sv (.own a)) (k : ∀ p xs us, sv = .own p xs → OwnL p h a us.toArray → Rs hW xs us → P) : P := by cases r with | own a b => exact k _ _ _ rfl a b
theorem SR.selfC {h hW : Heap} {e : Addr} {fs : List (Str × V)} {c : CS} {P : Prop} (r : SR h hW (.self e fs) c) (k : ∀ x dx es n, c = .self x dx → h.get? x = some ⟨.ref e, some dx, .plain, #[]⟩ → h.get? dx = some (dictOf es n) → Rf hW fs es → P) : P := by cases r with | self a b c => exact k _ _ _ _ rfl a b c
theorem PlainList.keeps {h h' : Heap} (k : Le h h') {a : Addr} {us : Array Value} (x : h.PlainList a us) : h'.PlainList a us := let ⟨n, e⟩ := x; ⟨n, k _ _ e⟩
theorem SR.mono {h h' g g' : Heap} (k : Le h h') (l : Le g g') {sv : SV} {c : CS} : SR h g sv c → SR h' g' sv c
  | .unset => .unset
  | .val r => .val (r.mono l)
  | .own p r => (let ⟨o, e, z⟩ := p; .own ⟨o, k _ _ e, z⟩ (r.mono l))
  | .self a b r => .self (k _ _ a) (k _ _ b) (r.mono l)
noncomputable def cellA (env : Env) (C : Nm) : List Addr := C.slots.filterMap fun p => if p.2 = .cell then env.cells.lookup p.1 else none
noncomputable def adrs (cs : List CS) : List Addr := cs.flatMap CS.adr
noncomputable def wr (C : Nm) (d : Dy) (cs : List CS) : List Addr := d.env.locals :: (cellA d.env C ++ adrs cs)
noncomputable def frm (C : Nm) (d : Dy) : List Addr := d.env.locals :: cellA d.env C
noncomputable def Stored (h : Heap) (env : Env) (m : Str → Option Value) (p : Str × NameKind) (o : Option Value) : Prop :=
  match p.2 with
  | .local => m p.1 = o
  | _ => ∃ c, env.cells.lookup p.1 = some c ∧ h.IsCell c o
theorem Stored.keeps {h h' : Heap} (k : Le h h') {env : Env} {m : Str → Option Value} {p : Str × NameKind} {o : Option Value} (x : Stored h env m p o) : Stored h' env m p o := by
  unfold Stored at x ⊢
  split at (x)
  · exact x
  · refine sEA x fun c a b => ?_; try clear x
    exact ⟨c, a, b.keeps k⟩
structure EnvOK (C : Nm) (env : Env) : Prop where
  kind : env.scope.kind = .function
  globals : env.globals = mainGlobals
  builtins : env.builtins = builtinsNs
  kinds : ∀ p ∈ C.slots, env.kindOf p.1 = some p.2 ∨ (p.2 = .free ∧ env.kindOf p.1 = some .cell)
  globs : ∀ x ∈ C.globs, env.kindOf x = some .globalImplicit
  three : ∀ p ∈ C.slots, p.2 = .local ∨ p.2 = .cell ∨ p.2 = .free
  dist : ∀ p ∈ C.slots, ∀ q ∈ C.slots, p.2 ≠ .local → q.2 ≠ .local → ∀ c, env.cells.lookup p.1 = some c → env.cells.lookup q.1 = some c → p.1 = q.1
  nodup : (C.slots.map (·.1)).Nodup
  noClass : ∀ p ∈ C.slots, (p.1 == ("__classdict__" : Str)) = false ∧ (p.1 == ("__debug__" : Str)) = false
structure Inv (C : Nm) (d : Dy) (σ : List SV) (h : Heap) (cs : List CS) : Prop where
  ns : ∃ m, h.Ns d.env.locals m ∧ ∀ (i : Nat) (p : Str × NameKind) (c : CS), C.slots[i]? = some p → cs[i]? = some c → Stored h d.env m p c.value
  lenS : σ.length = C.slots.length
  lenC : cs.length = C.slots.length
  sr : ∀ (i : Nat) (sv : SV) (c : CS), σ[i]? = some sv → cs[i]? = some c → SR h (hideAll h (d.W ++ wr C d cs)) sv c
  keep : Le d.he h
  fresh : ∀ a ∈ wr C d cs, d.he.get? a = none
  LC : d.env.locals ∉ cellA d.env C ++ adrs cs
  CA : ∀ a ∈ cellA d.env C, a ∉ adrs cs
  own : ∀ (i j : Nat) (c c' : CS), i ≠ j → cs[i]? = some c → cs[j]? = some c' → ∀ a ∈ c.adr, a ∉ c'.adr
  slf : ∀ (i : Nat) (x dx : Addr), cs[i]? = some (.self x dx) → (x, dx) ∈ d.slf
structure DOk (u : U) (n : Nat) (C : Nm) (d : Dy) : Prop where
  env : EnvOK C d.env
  base : Base u d.hb
  le : Le d.hb d.he
  room : Room n d.A
  alive : ∀ a ∈ d.W, d.he.get? a ≠ none
  above : d.hb.objs.size ≤ d.env.locals
theorem Inv.keeps {C : Nm} {d : Dy} {σ : List SV} {h h' : Heap} {cs : List CS} (I : Inv C d σ h cs) (k : Le h h') : Inv C d σ h' cs where
  ns := by
    refine sEA I.ns fun m hn hs => ?_
    exact ⟨m, hn.keeps k, fun i p c a b => (hs i p c a b).keeps k⟩
  lenS := I.lenS
  lenC := I.lenC
  sr := fun i sv c a b => (I.sr i sv c a b).mono k (Le.hides_same k)
  keep := I.keep.trans k
  fresh := I.fresh
  LC := I.LC
  CA := I.CA
  own := I.own
  slf := I.slf
noncomputable def hid (C : Nm) (d : Dy) (cs : List CS) (b : Bool) : List Addr := d.W ++ (if b then frm C d else wr C d cs)
theorem frm_wr {C : Nm} {d : Dy} {cs : List CS} {a : Addr} (m : a ∈ frm C d) : a ∈ wr C d cs := by
  rcases List.mem_cons.mp m with m | m
  · exact m ▸ List.mem_cons_self
  · exact List.mem_cons_of_mem _ (List.mem_append_left _ m)
theorem hid_le {C : Nm} {d : Dy} {cs : List CS} {b b' : Bool} (h : Heap) (q : b = true → b' = true) : Le (hideAll h (hid C d cs b)) (hideAll h (hid C d cs b')) := Le.hides_sub fun a m => by
  unfold hid at m ⊢
  rcases List.mem_append.mp m with m | m
  · exact List.mem_append_left _ m
  · refine List.mem_append_right _ ?_
    cases b with
    | true => rw [q rfl] at m; exact m
    | false =>
      cases b' with
      | true => exact frm_wr m
      | false => exact m
noncomputable def SE (u : U) (n : Nat) (C : Nm) (e : PySem.Expr) (σ : List SV) (v : V) (b : Bool) : Prop :=
  ∀ (d : Dy) (s : Shared) (cs : List CS), DOk u n C d → Inv C d σ s.heap cs →
    wpAny (model u.prog u.w) d.A (eval e d.env) (fun x s' => Kp s s' ∧ R (hideAll s'.heap (hid C d cs b)) v x) NoE s
structure XE (u : U) (n : Nat) (C : Nm) where
  e : PySem.Expr
  den : List SV → Option (V × Bool)
  snd : ∀ σ v b, den σ = some (v, b) → SE u n C e σ v b
theorem SE.flat {u : U} {n : Nat} {C : Nm} {e : PySem.Expr} {σ : List SV} {v : V} {b b' : Bool} (h : SE u n C e σ v b) (f : v.flat = true) : SE u n C e σ v b' := fun d s cs D I =>
  ex (h d s cs D I) fun _ _ q => ⟨q.1, q.2.of_flat f⟩
namespace XE
variable {u : U} {n : Nat} {C : Nm}
noncomputable def loc (i : Nat) (p : Pos) (x : Str) (k : NameKind) (hx : C.slots[i]? = some (x, k) := by rfl) : XE u n C where
  e := .Name x p
  den σ := match σ[i]? with
    | some (.val v) => some (v, false)
    | some (.own _ xs) => some (.list xs, true)
    | _ => none
  snd := by
    intro σ v b h d s cs D I
    have hm : (x, k) ∈ C.slots := List.mem_of_getElem? hx
    have hi : i < C.slots.length := by
      rcases Nat.lt_or_ge i C.slots.length with q | q
      · exact q
      · rw [List.getElem?_eq_none q] at hx; cases hx
    obtain ⟨c, hc⟩ : ∃ c, cs[i]? = some c := ⟨cs[i]'(by rw [I.lenC]; exact hi), List.getElem?_eq_getElem _⟩
    refine sEA I.ns fun m hns hst => ?_
    have hs := hst i (x, k) c hx hc
    have hk := D.env.kinds _ hm
    have key : ∃ w, c.value = some w ∧ R (hideAll s.heap (hid C d cs b)) v w := by
      split at h
      · rename_i v' hv
        cases h
        have r := I.sr i _ c hv hc
        refine SR.valC r fun _ eqx rX => ?_
        clear r; cases (eqx); revert rX; intro r
        exact ⟨_, rfl, r⟩
      · rename_i pf xs hv
        cases h
        have r := I.sr i _ c hv hc
        refine SR.ownC r fun us a eqx p rX => ?_
        clear r; cases (eqx); revert rX; intro r
        refine ⟨_, rfl, .list (vs := us) ?_ (r.mono (hid_le (C := C) (cs := cs) (b := false) (b' := true) s.heap (fun q => by cases q)))⟩
        refine sEAAEA p fun o' e z1 n' z2 _ => ?_; try clear p
        have ha : a ∈ adrs cs := List.mem_flatMap.mpr ⟨_, List.mem_of_getElem? hc, by simp [CS.adr]⟩
        have hw : a ∈ wr C d cs := List.mem_cons_of_mem _ (List.mem_append_right _ ha)
        have hn : a ∉ hid C d cs true := fun q => by
          unfold hid at q
          rcases List.mem_append.mp q with q | q
          · exact D.alive _ q (I.fresh _ hw)
          · rcases List.mem_cons.mp q with q | q
            · exact I.LC (q ▸ List.mem_append_right _ ha)
            · exact I.CA _ q ha
        exact ⟨_, hideAll_get _ e hn, z1, n', z2⟩
      · cases h
    refine sEA key fun w hw hr => ?_; try clear key
    have hnc := D.env.noClass _ hm
    refine wpAny_Name ?_ hnc.2
    rcases D.env.three _ hm with q | q | q
    · cases q
      refine wpAny_loadName_local (m := m) (v := w) D.env.kind (hk.resolve_right fun z => by cases z.1) hns (hs.trans hw) ⟨Kp.refl s, hr⟩
    · cases q
      refine sEA hs fun ca h1 h2 => ?_; try clear hs
      rw [hw] at h2
      exact wpAny_loadName_cell D.env.kind (hk.resolve_right fun z => by cases z.1) h1 h2 ⟨Kp.refl s, hr⟩
    · cases q
      refine sEA hs fun ca h1 h2 => ?_; try clear hs
      rw [hw] at h2
      rcases hk with hk | ⟨_, hk⟩
      · exact wpAny_loadName_free D.env.kind hk h1 h2 ⟨Kp.refl s, hr⟩ hnc.1
      · exact wpAny_loadName_cell D.env.kind hk h1 h2 ⟨Kp.refl s, hr⟩
end XE
noncomputable abbrev big : Nat := 2 ^ 62
noncomputable def mulOk (a b : Int) : Bool := (decide (a.natAbs < big)) || (decide (b.natAbs < big))
noncomputable def lenOk (n : Nat) : Bool := decide (n ≤ 2 ^ 20)
noncomputable def binI (op : Operator) (a b : Int) : Option V := match op with
  | .Add => some (.int (a + b))
  | .Sub => some (.int (a - b))
  | .Mult => if mulOk a b then some (.int (a * b)) else none
  | .FloorDiv => if b != 0 && decide (b.natAbs < big) then some (.int (a.fdiv b)) else none
  | .Mod => if b != 0 then some (.int (a.fmod b)) else none
  | .Pow => if decide (0 ≤ b) && decide (b ≤ 64) && decide (a.natAbs < big) then some (.int (a ^ b.toNat)) else none
  | _ => none
noncomputable def binS (op : Operator) (x : Str) (b : V) : Option V := match b with
  | .str y => match op with
    | .Add => if lenOk (x.length + y.length) then some (.str (x ++ y)) else none
    | _ => none
  | .int n => match op with
    | .Mult => if decide (-1 ≤ n) && decide (n ≤ 1000) && decide (x.length ≤ 1000) then some (.str (Txt.mul x n)) else none
    | _ => none
  | _ => none
noncomputable def binL (op : Operator) (xs : List V) (b : V) : Option V := match b with
  | .list ys => match op with
    | .Add => if lenOk (xs.length + ys.length) then some (.list (xs ++ ys)) else none
    | _ => none
  | _ => none
noncomputable def binop (op : Operator) (a b : V) : Option V := match a with
  | .int i => match b with
    | .int j => binI op i j
    | _ => none
  | .str x => binS op x b
  | .list xs => binL op xs b
  | _ => none
theorem binopC {op : Operator} {a b c : V} {P : Prop} (h : binop op a b = some c) (k1 : ∀ i j, a = .int i → b = .int j → binI op i j = some c → P) (k2 : ∀ x, a = .str x → binS op x b = some c → P) (k3 : ∀ xs, a = .list xs → binL op xs b = some c → P) : P := by
  cases a with
  | int i => cases b with
    | int j => exact k1 i j rfl rfl h
    | _ => exact nn0 h
  | str x => exact k2 x rfl h
  | list xs => exact k3 xs rfl h
  | _ => exact nn0 h
theorem binSC {op : Operator} {x : Str} {b c : V} {P : Prop} (h : binS op x b = some c) (k1 : ∀ y, b = .str y → op = .Add → lenOk (x.length + y.length) = true → c = .str (x ++ y) → P) (k2 : ∀ n, b = .int n → op = .Mult → (decide (-1 ≤ n) && decide (n ≤ 1000) && decide (x.length ≤ 1000)) = true → c = .str (Txt.mul x n) → P) : P := by
  cases b with
  | str y => cases op with
    | Add =>
      have h : (if lenOk (x.length + y.length) then some (V.str (x ++ y)) else none) = some c := h
      by_cases q : lenOk (x.length + y.length) = true
      · rw [if_pos q] at h; exact k1 y rfl rfl q (Option.some.inj h).symm
      · rw [if_neg q] at h; exact nn0 h
    | _ => exact nn0 h
  | int n => cases op with
    | Mult =>
      have h : (if decide (-1 ≤ n) && decide (n ≤ 1000) && decide (x.length ≤ 1000) then some (V.str (Txt.mul x n)) else none) = some c := h
      by_cases q : (decide (-1 ≤ n) && decide (n ≤ 1000) && decide (x.length ≤ 1000)) = true
      · rw [if_pos q] at h; exact k2 n rfl rfl q (Option.some.inj h).symm
      · rw [if_neg q] at h; exact nn0 h
    | _ => exact nn0 h
  | _ => exact nn0 h
theorem binLC {op : Operator} {xs : List V} {b c : V} {P : Prop} (h : binL op xs b = some c) (k1 : ∀ ys, b = .list ys → op = .Add → lenOk (xs.length + ys.length) = true → c = .list (xs ++ ys) → P) : P := by
  cases b with
  | list ys => cases op with
    | Add =>
      have h : (if lenOk (xs.length + ys.length) then some (V.list (xs ++ ys)) else none) = some c := h
      by_cases q : lenOk (xs.length + ys.length) = true
      · rw [if_pos q] at h; exact k1 ys rfl rfl q (Option.some.inj h).symm
      · rw [if_neg q] at h; exact nn0 h
    | _ => exact nn0 h
  | _ => exact nn0 h
theorem iteC {c : Bool} {x y : V} {P : Prop} (h : (if c then some x else none) = some y) (k : c = true → y = x → P) : P := by
  cases c with
  | true => exact k rfl (Option.some.inj h).symm
  | false => exact nn0 h
theorem intBits_le {a : Int} (h : a.natAbs < big) : Builtin.Int.intBits a ≤ 64 := intBits_le_64 (by simp only [big] at h; omega) (by simp only [big] at h; omega)
section
variable {prog : Program} {w : World} {A : Around} {s : Shared} {W : List Addr}
theorem raw_add_lists {E : Value → Shared → Prop} {l b : Addr} {vs ws : List Value} {Q : Value → Shared → Prop} (hl : s.heap.IsList l vs.toArray) (hb : s.heap.IsList b ws.toArray)
    (h : Q (.ref s.heap.objs.size) { s with heap := s.heap.push { cls := .type "list", data := .seq (vs ++ ws).toArray } })
    (hsz : vs.length + ws.length ≤ sizeLine) : wpAny (model prog w) A (binaryOp .Add (.ref l) (.ref b)) Q E s := by
  refine sEAAE (id hl) fun z4 ho hc n hd => ?_; obtain ⟨cls, dd, data, sl⟩ := z4
  refine sEAAE (id hb) fun z5 ho2 hc2 n2 hd2 => ?_; obtain ⟨cls2, dd2, data2, sl2⟩ := z5
  simp only at hc hd hc2 hd2
  subst hc hd hc2 hd2
  have e : vs.toArray ++ ws.toArray = (vs ++ ws).toArray := by simp
  refine concat_meets ⟨_, ho, rfl⟩ ⟨_, ho2, rfl⟩ noFill_list_add seq_list_add PySem.F.slot_list_add PySem.F.entry_list_add (PySem.F.args_list_add_2 _ _) (list_addW l b vs.toArray ws.toArray n n2 dd dd2 sl sl2 (by simpa using hsz)) ⟨ho, ho2, ?_⟩
  rw [e]
  exact h
theorem fresh_seen {h : Heap} {W : List Addr} {o : Obj} (hf : o.isFreed = false) (hW : ∀ a ∈ W, a < h.objs.size) : (hideAll (h.push o) W).get? h.objs.size = some o :=
  hideAll_get W (Heap.get?_push_size _ hf) fun m => Nat.lt_irrefl _ (hW _ m)
theorem IsList.of_hide {h : Heap} {W : List Addr} {a : Addr} {us : Array Value} (x : (hideAll h W).IsList a us) : h.IsList a us := let ⟨o, e, r⟩ := x; ⟨o, of_hideAll W e, r⟩
theorem IsTup.of_hide {h : Heap} {W : List Addr} {a : Addr} {us : Array Value} (x : IsTup (hideAll h W) a us) : IsTup h a us := let ⟨o, e, r⟩ := x; ⟨o, of_hideAll W e, r⟩
theorem genW0 {α : Type} {M : Model} {A : Around} {t : Sem α} {P : α → Shared → Prop} {E : Value → Shared → Prop} {s : Shared} (h : ∀ Q : α → Shared → Prop, (∀ a s', P a s' → Q a s') → wpAny M A t Q E s) : wpAny M A t P E s := h P fun _ _ q => q
theorem binI_ok {op : Operator} {i j : Int} {ti tj : Tok} {c : V} (hc : binI op i j = some c) :
    wpAny (model prog w) A (binaryOp op (.int i ti) (.int j tj)) (fun z s' => Kp s s' ∧ R (hideAll s'.heap W) c z) NoE s := by
  refine genW0 fun Q hQ => ?_
  cases op with
  | Add => have e := Option.some.inj hc; subst e; exact add_int (hQ _ _ ⟨Kp.tok .., .int ..⟩)
  | Sub => have e := Option.some.inj hc; subst e; exact sub_int (hQ _ _ ⟨Kp.tok .., .int ..⟩)
  | Mult =>
    refine iteC hc fun q e => ?_
    subst e
    refine mul_int (hQ _ _ ⟨Kp.tok .., .int ..⟩) ?_
    unfold mulOk at q
    unfold IntMulOk
    rw [Bool.or_eq_true, decide_eq_true_eq, decide_eq_true_eq] at q
    intro z
    rw [Bool.and_eq_true, Bool.and_eq_true, decide_eq_true_eq, decide_eq_true_eq] at z
    have z1 := z.1.1
    have z2 := z.1.2
    unfold shortFactorBits at z1 z2
    rcases q with q | q
    · have := intBits_le q; omega
    · have := intBits_le q; omega
  | FloorDiv =>
    refine iteC hc fun q e => ?_
    subst e
    rw [Bool.and_eq_true, bne_iff_ne, decide_eq_true_eq] at q
    refine floordiv_int q.1 (hQ _ _ ⟨Kp.tok .., .int ..⟩) (.inl ?_)
    unfold Builtin.divisionGoesByPylong
    dsimp only
    rw [Bool.and_eq_false_iff]
    left
    refine decide_eq_false ?_
    split
    · omega
    · have hl : j.natAbs.log2 < 64 := by
        rcases Nat.eq_zero_or_pos j.natAbs with z | z
        · rw [z]; decide
        · exact (Nat.log2_lt (by omega)).mpr (Nat.lt_of_lt_of_le q.2 (by decide))
      omega
  | Mod =>
    refine iteC hc fun q e => ?_
    subst e
    exact mod_int (bne_iff_ne.mp q) (hQ _ _ ⟨Kp.tok .., .int ..⟩)
  | Pow =>
    refine iteC hc fun q e => ?_
    subst e
    rw [Bool.and_eq_true, Bool.and_eq_true, decide_eq_true_eq, decide_eq_true_eq, decide_eq_true_eq] at q
    refine pow_int q.1.1 ?_ (hQ _ _ ⟨Kp.tok .., .int ..⟩)
    have h1 := intBits_le q.2
    have h2 : ((Builtin.Int.intBits i : Nat) : Int) * j ≤ 64 * 64 := Int.mul_le_mul (by omega) q.1.2 q.1.1 (by omega)
    omega
  | _ => exact nn0 hc
theorem binop_ok {op : Operator} {a b c : V} {x y : Value} (hc : binop op a b = some c) (ha : R (hideAll s.heap W) a x) (hb : R (hideAll s.heap W) b y) (hW : ∀ q ∈ W, q < s.heap.objs.size) :
    wpAny (model prog w) A (binaryOp op x y) (fun z s' => Kp s s' ∧ R (hideAll s'.heap W) c z) NoE s := by
  refine binopC hc (fun i j e1 e2 h => ?_) (fun x e1 h => binSC h (fun y e2 e3 q e4 => ?_) fun n e2 e3 q e4 => ?_) (fun xs e1 h => binLC h fun ys e2 e3 q e4 => ?_)
  · subst e1; subst e2
    refine R.intC ha fun _ e => ?_
    subst e
    refine R.intC hb fun _ e => ?_
    subst e
    exact binI_ok h
  · subst e1; subst e2; subst e3; subst e4
    refine R.strC ha fun _ e => ?_
    subst e
    refine R.strC hb fun _ e => ?_
    subst e
    have q := of_decide_eq_true q
    exact add_str (fun t tk => ⟨Kp.tok .., .str ..⟩) (Nat.le_trans q (by decide))
  · subst e1; subst e2; subst e3; subst e4
    refine R.strC ha fun _ e => ?_
    subst e
    refine R.intC hb fun _ e => ?_
    subst e
    rw [Bool.and_eq_true, Bool.and_eq_true, decide_eq_true_eq, decide_eq_true_eq, decide_eq_true_eq] at q
    refine SB.mul ⟨?_, ?_, ?_⟩ fun t tk => ⟨Kp.tok .., .str ..⟩
    · rw [Bool.or_eq_false_iff]; exact ⟨decide_eq_false (by omega), decide_eq_false (by omega)⟩
    · intro h1 _ h3
      have hn : 0 < n := by omega
      have e1 := Int.mul_ediv_add_emod (2 ^ 63 - 1 : Int) n
      have e2 := Int.emod_lt_of_pos (2 ^ 63 - 1 : Int) hn
      have e3 : n * ((2 ^ 63 - 1 : Int) / n + 1) ≤ n * (x.length : Int) := Int.mul_le_mul_of_nonneg_left (by omega) (by omega)
      have e4 : n * (x.length : Int) ≤ 1000 * 1000 := Int.mul_le_mul q.1.2 (by omega) (by omega) (by omega)
      rw [Int.mul_add] at e3
      omega
    · intro h1 _
      unfold Builtin.Str.tooLong
      have e4 : x.length * n.toNat ≤ 1000 * 1000 := Nat.mul_le_mul q.2 (by omega)
      exact decide_eq_false (by have : sizeLine = 2 ^ 24 := rfl; omega)
  · subst e1; subst e2; subst e3; subst e4
    refine R.listC ha fun vs l eqx hl hr => ?_
    subst eqx
    refine R.listC hb fun us l2 eqx hl2 hr2 => ?_
    subst eqx
    have q := of_decide_eq_true q
    have e1 := hr.length
    have e2 := hr2.length
    refine raw_add_lists (IsList.of_hide hl) (IsList.of_hide hl2) ⟨Kp.heap _ (Le.push _ _), .list (vs := vs ++ us) ⟨_, fresh_seen rfl hW, rfl, _, rfl⟩ ((hr.append hr2).mono (Le.hides_same (Le.push _ _)))⟩ (Nat.le_trans (by omega) (show 2 ^ 20 ≤ sizeLine by decide))
end
mutual
noncomputable def V.data : V → Option PyData
  | .int i => some (.int i)
  | .bool b => some (.bool b)
  | .str x => some (.str x)
  | .none => some .none
  | .list xs => (V.datas xs).map .list
  | .tup xs => (V.datas xs).map .tuple
  | _ => .none
noncomputable def V.datas : List V → Option (List PyData)
  | [] => some []
  | x :: xs => match V.data x, V.datas xs with
    | some d, some ds => some (d :: ds)
    | _, _ => .none
end
theorem datasC {x : V} {xs : List V} {ds : List PyData} {P : Prop} (e : V.datas (x :: xs) = some ds) (k : ∀ d ds', V.data x = some d → V.datas xs = some ds' → ds = d :: ds' → P) : P := by
  have e : (match V.data x, V.datas xs with | some d, some ds => some (d :: ds) | _, _ => .none) = some ds := e
  cases q1 : V.data x with
  | none => rw [q1] at e; exact nn0 e
  | some d =>
    cases q2 : V.datas xs with
    | none => rw [q1, q2] at e; exact nn0 e
    | some ds' => rw [q1, q2] at e; exact k d ds' q1 q2 (Option.some.inj e).symm
theorem R.reads {h : Heap} {x : V} {v : Value} {d : PyData} (r : R h x v) (e : x.data = some d) : ∃ as, Reads h v d as :=
  R.rec (motive_1 := fun x v _ => ∀ d, x.data = some d → ∃ as, Reads h v d as) (motive_2 := fun xs vs _ => ∀ ds, V.datas xs = some ds → ∃ as, ReadsAll h vs ds as) (motive_3 := fun _ _ _ => True)
    (fun i t _ e => Option.some.inj e ▸ ⟨_, .int i t⟩) (fun b _ e => Option.some.inj e ▸ ⟨_, .bool b⟩) (fun x t _ e => Option.some.inj e ▸ ⟨_, .str x t⟩) (fun _ e => Option.some.inj e ▸ ⟨_, .none⟩)
    (fun {xs} {vs} {a} hl _ ih d e => Exists.elim hl fun o z => Exists.elim z.2.2 fun n hd => Exists.elim (Option.map_eq_some_iff.mp (show (V.datas xs).map .list = some d from e)) fun ds q => Exists.elim (ih ds q.1) fun as h => q.2 ▸ ⟨_, .list z.1 z.2.1 hd h⟩)
    (fun {xs} {vs} {a} hl _ ih d e => Exists.elim hl fun o z => Exists.elim z.2.2 fun n hd => Exists.elim (Option.map_eq_some_iff.mp (show (V.datas xs).map .tuple = some d from e)) fun ds q => Exists.elim (ih ds q.1) fun as h => q.2 ▸ ⟨_, .tuple z.1 z.2.1 hd h⟩)
    (fun _ _ e => nn0 e) (fun _ _ e => nn0 e) (fun _ _ _ _ _ e => nn0 e) (fun _ _ _ e => nn0 e)
    (fun _ e => Option.some.inj e ▸ ⟨_, .nil⟩) (fun _ _ ia ib ds e => datasC e fun d ds' q1 q2 e => Exists.elim (ia d q1) fun as h1 => Exists.elim (ib ds' q2) fun bs h2 => e ▸ ⟨_, .cons h1 h2⟩)
    trivial (fun _ _ _ _ => trivial) r d e
noncomputable def plainV : V → Bool
  | .bool _ | .none => true
  | _ => false
noncomputable def sameV : V → V → Bool
  | .bool a, .bool b => a == b
  | .none, .none => true
  | _, _ => false
noncomputable def eqV (a b : V) : Option Bool := match a.data, b.data with
  | some d, some e => if SeqAt.shaped d && SeqAt.shaped e then some (d.eqv e) else none
  | _, _ => none
noncomputable def cmpI (op : CmpOp) (a b : Int) : Option Bool := match op with
  | .Eq => some (a == b)
  | .NotEq => some (a != b)
  | .Lt => some (decide (a < b))
  | .Gt => some (decide (b < a))
  | .LtE => some (decide (a ≤ b))
  | .GtE => some (decide (b ≤ a))
  | _ => none
noncomputable def cmpR (op : CmpOp) (a b : V) : Option Bool := match op with
  | .Eq => eqV a b
  | .NotEq => (eqV a b).map not
  | .Is => if plainV a && plainV b then some (sameV a b) else none
  | .IsNot => if plainV a && plainV b then some (!sameV a b) else none
  | _ => none
noncomputable def isIs : CmpOp → Bool
  | .Is => true
  | .IsNot => true
  | _ => false
noncomputable def cmpop (op : CmpOp) (a b : V) : Option Bool := match a with
  | .int i => match b with
    | .int j => if isIs op then cmpR op (.int i) (.int j) else cmpI op i j
    | b => cmpR op (.int i) b
  | a => cmpR op a b
theorem cmpopC {op : CmpOp} {a b : V} {c : Bool} {P : Prop} (h : cmpop op a b = some c) (k1 : ∀ i j, a = .int i → b = .int j → cmpI op i j = some c → P) (k2 : cmpR op a b = some c → P) : P := by
  cases a with
  | int i => cases b with
    | int j => cases op with
      | Is => exact k2 h
      | IsNot => exact k2 h
      | _ => exact k1 i j rfl rfl h
    | _ => exact k2 h
  | _ => exact k2 h
section
variable {prog : Program} {w : World} {A : Around} {s : Shared} {W : List Addr}
theorem eqV_ok {a b : V} {c : Bool} {x y : Value} (hc : eqV a b = some c) (ha : R s.heap a x) (hb : R s.heap b y) (hu : A.units + 64 < cLine) :
    wpAny (model prog w) A (compareOp .Eq x y) (fun z s' => s' = s ∧ z = .bool c) NoE s ∧ wpAny (model prog w) A (compareOp .NotEq x y) (fun z s' => s' = s ∧ z = .bool (!c)) NoE s := by
  unfold eqV at hc
  (refine Classical.byContradiction fun hnn => ?_; split at (hc) <;> (refine hnn ?_; clear hnn))
  · rename_i d e h1 h2
    (refine Classical.byContradiction fun hnn => ?_; split at (hc) <;> (refine hnn ?_; clear hnn))
    · rename_i q
      cases (hc)
      rw [Bool.and_eq_true] at q
      refine sE (ha.reads h1) fun as r1 => ?_
      refine sE (hb.reads h2) fun bs r2 => ?_
      exact ⟨eq_dataH r1 r2 q.1 q.2 hu ⟨rfl, rfl⟩, ne_dataH r1 r2 q.1 q.2 hu ⟨rfl, rfl⟩⟩
    · exact nn0 hc
  · exact nn0 hc
theorem plainC {h : Heap} {a : V} {x : Value} {P : Prop} (q : plainV a = true) (ha : R h a x) (k1 : ∀ b, a = .bool b → x = .bool b → P) (k2 : a = .none → x = .none → P) : P := by
  cases a with
  | bool b => exact R.boolC ha fun e => k1 b rfl e
  | none => exact R.noneC ha fun e => k2 rfl e
  | _ => exact Bool.noConfusion q
theorem is_ok {a b : V} {x y : Value} (q : (plainV a && plainV b) = true) (ha : R s.heap a x) (hb : R s.heap b y) :
    PySem.plainIs x y = true ∧ (x == y) = sameV a b := by
  rw [Bool.and_eq_true] at q
  refine plainC q.1 ha (fun p e1 e2 => plainC q.2 hb (fun r e3 e4 => ?_) fun e3 e4 => ?_) fun e1 e2 => plainC q.2 hb (fun r e3 e4 => ?_) fun e3 e4 => ?_
  all_goals rw [e1, e2, e3, e4]
  · cases (p) <;> cases (r) <;> exact ⟨rfl, rfl⟩
  · exact ⟨rfl, rfl⟩
  · exact ⟨rfl, rfl⟩
  · exact ⟨rfl, rfl⟩
theorem iteB {c : Bool} {x y : Bool} {P : Prop} (h : (if c then some x else none) = some y) (k : c = true → y = x → P) : P := by
  cases c with
  | true => exact k rfl (Option.some.inj h).symm
  | false => exact nn0 h
theorem cmpop_ok {op : CmpOp} {a b : V} {c : Bool} {x y : Value} (hc : cmpop op a b = some c) (ha : R s.heap a x) (hb : R s.heap b y) (hu : A.units + 64 < cLine) :
    wpAny (model prog w) A (compareOp op x y) (fun z s' => s' = s ∧ z = .bool c) NoE s := by
  refine genW0 fun Q hQ => ?_
  refine cmpopC hc (fun i j e1 e2 hc => ?_) fun hc => ?_
  · subst e1; subst e2
    refine R.intC ha fun _ e => ?_
    subst e
    refine R.intC hb fun _ e => ?_
    subst e
    cases op with
    | Eq => have e := Option.some.inj hc; subst e; exact eq_int (hQ _ _ ⟨rfl, rfl⟩)
    | NotEq => have e := Option.some.inj hc; subst e; exact ne_int (hQ _ _ ⟨rfl, rfl⟩)
    | Lt => have e := Option.some.inj hc; subst e; exact lt_int (hQ _ _ ⟨rfl, rfl⟩)
    | Gt => have e := Option.some.inj hc; subst e; exact gt_int (hQ _ _ ⟨rfl, rfl⟩)
    | LtE => have e := Option.some.inj hc; subst e; exact le_int (hQ _ _ ⟨rfl, rfl⟩)
    | GtE => have e := Option.some.inj hc; subst e; exact ge_int (hQ _ _ ⟨rfl, rfl⟩)
    | _ => exact nn0 hc
  · cases op with
    | Eq => exact ex (eqV_ok hc ha hb hu).1 hQ
    | NotEq =>
      refine sEA (Option.map_eq_some_iff.mp hc) fun c' q z6 => ?_; (first | subst z6 | cases (z6))
      exact ex (eqV_ok q ha hb hu).2 hQ
    | Is =>
      refine iteB hc fun q e => ?_
      subst e
      have z := is_ok q ha hb
      exact wpAny_is_plain z.1 (hQ _ _ ⟨rfl, congrArg _ z.2⟩)
    | IsNot =>
      refine iteB hc fun q e => ?_
      subst e
      have z := is_ok q ha hb
      exact wpAny_isNot_plain z.1 (hQ _ _ ⟨rfl, congrArg _ (congrArg _ z.2)⟩)
    | _ => exact nn0 hc
end
noncomputable def truthV : V → Option Bool
  | .bool b => some b
  | .none => some false
  | .int a => some (a != 0)
  | .str x => if lenOk x.length then some ((x.length : Int) != 0) else none
  | _ => none
theorem truthV_ok {prog : Program} {w : World} {A : Around} {s : Shared} {h : Heap} {a : V} {c : Bool} {x : Value} (hc : truthV a = some c) (ha : R h a x) :
    wpAny (model prog w) A (truthy x) (fun z s' => Kp s s' ∧ z = c) NoE s := by
  cases a with
  | bool b => have e := Option.some.inj hc; subst e; refine R.boolC ha fun e => ?_; subst e; exact wpAny_truthy_bool ⟨Kp.refl _, rfl⟩
  | none => have e := Option.some.inj hc; subst e; refine R.noneC ha fun e => ?_; subst e; exact truthy_none ⟨Kp.refl _, rfl⟩
  | int i => have e := Option.some.inj hc; subst e; refine R.intC ha fun t e => ?_; subst e; exact truthy_int ⟨Kp.refl _, rfl⟩
  | str x =>
    refine iteB hc fun q e => ?_
    subst e
    refine R.strC ha fun t e => ?_
    subst e
    have q := of_decide_eq_true q
    exact PySem.P.truthy_str (by omega) ⟨Kp.tok .., rfl⟩
  | _ => exact nn0 hc
theorem CS.adr_alive {h g : Heap} {sv : SV} {c : CS} (r : SR h g sv c) : ∀ a ∈ c.adr, a < h.objs.size := by
  cases r with
  | unset => intro a m; exact nn4 m
  | val _ => intro a m; exact nn4 m
  | own p _ => intro a m; refine sEA p fun o e _ => ?_; try clear p; cases List.mem_singleton.mp m; exact Heap.lt_size e
  | self e1 e2 _ =>
    intro a m
    rcases List.mem_cons.mp m with m | m
    · rw [m]; exact Heap.lt_size e1
    · cases List.mem_singleton.mp m; exact Heap.lt_size e2
theorem get_of_len {α : Type} {l : List α} {n i : Nat} (h : l.length = n) (hi : i < n) : ∃ x, l[i]? = some x := ⟨l[i]'(by omega), List.getElem?_eq_getElem _⟩
theorem Inv.lt {u : U} {n : Nat} {C : Nm} {d : Dy} {σ : List SV} {h : Heap} {cs : List CS} (D : DOk u n C d) (I : Inv C d σ h cs) : ∀ a ∈ d.W ++ wr C d cs, a < h.objs.size := by
  intro a m
  rcases List.mem_append.mp m with m | m
  · cases e : d.he.get? a with
    | none => exact absurd e (D.alive a m)
    | some o => exact Heap.lt_size (I.keep _ _ e)
  · rcases List.mem_cons.mp m with m | m
    · refine sEA I.ns fun mm hn _ => ?_
      exact m ▸ hn.lt
    · rcases List.mem_append.mp m with m | m
      · refine sEA (List.mem_filterMap.mp m) fun p hp e => ?_
        refine sEA I.ns fun mm hn hs => ?_
        obtain ⟨i, hi, rfl⟩ := List.getElem_of_mem hp
        refine sE (get_of_len I.lenC hi) fun c hc => ?_
        have z := hs i _ c (List.getElem?_eq_getElem hi) hc
        (refine Classical.byContradiction fun hnn => ?_; split at (e) <;> (refine hnn ?_; clear hnn))
        · rename_i hk
          unfold Stored at z
          rw [hk] at z
          refine sEA z fun ca h1 h2 => ?_; try clear z
          rw [h1] at e
          cases (e)
          exact h2.lt
        · exact nn0 e
      · refine sEA (List.mem_flatMap.mp m) fun c hc ha => ?_
        obtain ⟨i, hi, rfl⟩ := List.getElem_of_mem hc
        refine sE (get_of_len (I.lenS.trans I.lenC.symm) hi) fun sv hv => ?_
        exact CS.adr_alive (I.sr i sv _ hv (List.getElem?_eq_getElem hi)) a ha
theorem Inv.lt' {u : U} {n : Nat} {C : Nm} {d : Dy} {σ : List SV} {h : Heap} {cs : List CS} (D : DOk u n C d) (I : Inv C d σ h cs) (b : Bool) : ∀ a ∈ hid C d cs b, a < h.objs.size := fun a m => by
  refine I.lt D a ?_
  unfold hid at m
  rcases List.mem_append.mp m with m | m
  · exact List.mem_append_left _ m
  · cases b with
    | true => exact List.mem_append_right _ (frm_wr m)
    | false => exact List.mem_append_right _ m
theorem hid_up {C : Nm} {d : Dy} {cs : List CS} {h h' : Heap} {b b' : Bool} {v : V} {x : Value} (k : Le h h') (q : b = true → b' = true) (r : R (hideAll h (hid C d cs b)) v x) : R (hideAll h' (hid C d cs b')) v x :=
  (r.mono (Le.hides_same k)).mono (hid_le _ q)
structure XT (u : U) (n : Nat) (C : Nm) where
  e : PySem.Expr
  den : List SV → Option Bool
  snd : ∀ σ c, den σ = some c → ∀ (d : Dy) (s : Shared) (cs : List CS), DOk u n C d → Inv C d σ s.heap cs →
    wpAny (model u.prog u.w) d.A (PySem.isTrue e d.env (eval e d.env)) (fun z s' => Kp s s' ∧ z = c) NoE s
namespace XE
variable {u : U} {n : Nat} {C : Nm}
noncomputable def int (i : Int) (k : Nat) (p : Pos) : XE u n C where
  e := .Constant (.int i) k p
  den _ := some (.int i, false)
  snd := by
    intro σ v b h d s cs D I
    cases (h)
    exact wpAny_Constant_int ⟨Kp.tok .., .int ..⟩
noncomputable def str (x : Str) (k : Nat) (p : Pos) : XE u n C where
  e := .Constant (.str x) k p
  den _ := some (.str x, false)
  snd := by
    intro σ v b h d s cs D I
    cases (h)
    exact wpAny_Constant_str ⟨Kp.tok .., .str ..⟩
noncomputable def bool (x : Bool) (k : Nat) (p : Pos) : XE u n C where
  e := .Constant (.bool x) k p
  den _ := some (.bool x, false)
  snd := by
    intro σ v b h d s cs D I
    cases (h)
    exact wpAny_Constant_bool ⟨Kp.refl _, .bool ..⟩
noncomputable def none (k : Nat) (p : Pos) : XE u n C where
  e := .Constant .none k p
  den _ := some (.none, false)
  snd := by
    intro σ v b h d s cs D I
    cases (h)
    exact wpAny_Constant_none ⟨Kp.refl _, .none⟩
noncomputable def glob (x : Str) (v : Value) (p : Pos) (e : u.G.lookup x = some v) (hx : x ∈ C.globs) (hd : (x == ("__debug__" : Str)) = false) : XE u n C where
  e := .Name x p
  den _ := some (.raw v, false)
  snd := by
    intro σ v' b h d s cs D I
    cases (h)
    refine sEEAAA D.base.T fun mg mb T _ G _ => ?_
    have hk : Le d.hb s.heap := D.le.trans I.keep
    refine Name_function_global D.env.kind (D.env.globs x hx) (loadGlobal_global (mg := mg) ?_ (G x v e) ⟨Kp.refl _, .raw _⟩) hd
    rw [D.env.globals]; exact T.keeps hk
noncomputable def bi (x : Str) (v : Value) (p : Pos) (e : u.B.lookup x = some v) (hx : x ∈ C.globs) (hd : (x == ("__debug__" : Str)) = false) : XE u n C where
  e := .Name x p
  den _ := some (.raw v, false)
  snd := by
    intro σ v' b h d s cs D I
    cases (h)
    refine sEEAAA D.base.T fun mg mb T S _ G => ?_
    have hk : Le d.hb s.heap := D.le.trans I.keep
    refine Name_function_global D.env.kind (D.env.globs x hx) (loadGlobal_builtin (mg := mg) (mb := mb) ?_ (G x v e).1 ?_ (G x v e).2 ⟨Kp.refl _, .raw _⟩) hd
    · rw [D.env.globals]; exact T.keeps hk
    · rw [D.env.builtins]; exact S.keeps hk
theorem two {u : U} {n : Nat} {C : Nm} {e₁ e₂ : PySem.Expr} {σ : List SV} {v₁ v₂ : V} {b₁ b₂ : Bool} (h₁ : SE u n C e₁ σ v₁ b₁) (h₂ : SE u n C e₂ σ v₂ b₂) {d : Dy} {s : Shared} {cs : List CS} (D : DOk u n C d) (I : Inv C d σ s.heap cs)
    {Q : Value → Value → Shared → Prop} {E : Value → Shared → Prop}
    (h : ∀ x y s', Kp s s' → Inv C d σ s'.heap cs → R (hideAll s'.heap (hid C d cs (b₁ || b₂))) v₁ x → R (hideAll s'.heap (hid C d cs (b₁ || b₂))) v₂ y → Q x y s') :
    wpAny (model u.prog u.w) d.A (eval e₁ d.env) (fun x s₁ => wpAny (model u.prog u.w) d.A (eval e₂ d.env) (fun y s₂ => Q x y s₂) E s₁) E s :=
  ex (h₁ d s cs D I) fun x s₁ q => ex (h₂ d s₁ cs D (I.keeps q.1.le)) fun y s₂ r =>
    h x y s₂ (q.1.trans r.1) (I.keeps (q.1.trans r.1).le) (hid_up r.1.le (by intro z; rw [z]; rfl) q.2) (hid_up (Le.refl _) (by intro z; rw [z]; exact Bool.or_true _) r.2)
noncomputable def bin (op : Operator) (a b : XE u n C) (p : Pos) : XE u n C where
  e := .BinOp a.e op b.e p
  den σ := match a.den σ with
    | .none => .none
    | some (x, f) => match b.den σ with
      | .none => .none
      | some (y, g) => match binop op x y with
        | .none => .none
        | some z => some (z, f || g)
  snd := by
    intro σ v bb h d s cs D I
    (refine Classical.byContradiction fun hnn => ?_; split at (h) <;> (refine hnn ?_; clear hnn))
    · exact nn0 h
    · rename_i x f hx
      (refine Classical.byContradiction fun hnn => ?_; split at (h) <;> (refine hnn ?_; clear hnn))
      · exact nn0 h
      · rename_i y g hy
        (refine Classical.byContradiction fun hnn => ?_; split at (h) <;> (refine hnn ?_; clear hnn))
        · exact nn0 h
        · rename_i z hz
          cases (h)
          refine wpAny_BinOp (two (a.snd σ x f hx) (b.snd σ y g hy) D I fun v w s' k I' r1 r2 => ?_)
          exact ex (binop_ok hz r1 r2 (I'.lt' D _)) fun _ _ q => ⟨k.trans q.1, q.2⟩
noncomputable def cmp (op : CmpOp) (a b : XE u n C) (p : Pos) (hm : behindInMarks op b.e = false) : XE u n C where
  e := .Compare a.e [op] [b.e] p
  den σ := match a.den σ with
    | .none => .none
    | some (x, _) => match b.den σ with
      | .none => .none
      | some (y, _) => match cmpop op x y with
        | .none => .none
        | some z => some (.bool z, false)
  snd := by
    intro σ v bb h d s cs D I
    (refine Classical.byContradiction fun hnn => ?_; split at (h) <;> (refine hnn ?_; clear hnn))
    · exact nn0 h
    · rename_i x f hx
      (refine Classical.byContradiction fun hnn => ?_; split at (h) <;> (refine hnn ?_; clear hnn))
      · exact nn0 h
      · rename_i y g hy
        (refine Classical.byContradiction fun hnn => ?_; split at (h) <;> (refine hnn ?_; clear hnn))
        · exact nn0 h
        · rename_i z hz
          cases (h)
          refine wpAny_Compare1 (two (a.snd σ x f hx) (b.snd σ y g hy) D I fun v w s' k I' r1 r2 => ?_) hm
          refine ex (cmpop_ok hz (r1.mono (Le.hide _ _)) (r2.mono (Le.hide _ _)) (by have := D.room.units; omega)) fun _ _ q => ?_
          refine sA q fun z7 z8 => ?_; try clear q; (first | subst z7 | cases (z7)); (first | subst z8 | cases (z8))
          exact ⟨k, .bool _⟩
noncomputable def neg (a : XE u n C) (p : Pos) : XE u n C where
  e := .UnaryOp .USub a.e p
  den σ := match a.den σ with
    | some (.int i, _) => some (.int (-i), false)
    | _ => .none
  snd := by
    intro σ v bb h d s cs D I
    (refine Classical.byContradiction fun hnn => ?_; split at (h) <;> (refine hnn ?_; clear hnn))
    · rename_i i f hx
      cases (h)
      refine wpAny_UnaryOp (ex (a.snd σ _ _ hx d s cs D I) fun x s₁ q => ?_)
      cases q.2
      exact neg_int ⟨q.1.trans (Kp.tok ..), .int ..⟩
    · exact nn0 h
noncomputable def ifx (t : XT u n C) (a b : XE u n C) (p : Pos) : XE u n C where
  e := .IfExp t.e a.e b.e p
  den σ := match t.den σ with
    | some true => a.den σ
    | some false => b.den σ
    | .none => .none
  snd := by
    intro σ v bb h d s cs D I
    (refine Classical.byContradiction fun hnn => ?_; split at (h) <;> (refine hnn ?_; clear hnn))
    · rename_i ht
      refine wpAny_IfExp (ex (t.snd σ _ ht d s cs D I) fun z s₁ q => ?_)
      rw [q.2]
      exact ex (a.snd σ _ _ h d s₁ cs D (I.keeps q.1.le)) fun _ _ r => ⟨q.1.trans r.1, r.2⟩
    · rename_i ht
      refine wpAny_IfExp (ex (t.snd σ _ ht d s cs D I) fun z s₁ q => ?_)
      rw [q.2]
      exact ex (b.snd σ _ _ h d s₁ cs D (I.keeps q.1.le)) fun _ _ r => ⟨q.1.trans r.1, r.2⟩
    · exact nn0 h
noncomputable def and2 (a b : XE u n C) (p : Pos) : XE u n C where
  e := .BoolOp .And [a.e, b.e] p
  den σ := match a.den σ with
    | some (.bool true, _) => b.den σ
    | some (.bool false, f) => some (.bool false, f)
    | _ => .none
  snd := by
    intro σ v bb h d s cs D I
    (refine Classical.byContradiction fun hnn => ?_; split at (h) <;> (refine hnn ?_; clear hnn))
    · rename_i f ha
      refine wpAny_And2 (ex (a.snd σ _ _ ha d s cs D I) fun z s₁ q => ?_)
      cases q.2
      refine wpAny_truthy_bool ?_
      simp only [if_true]
      exact ex (b.snd σ _ _ h d s₁ cs D (I.keeps q.1.le)) fun _ _ r => ⟨q.1.trans r.1, r.2⟩
    · rename_i f ha
      cases (h)
      refine wpAny_And2 (ex (a.snd σ _ _ ha d s cs D I) fun z s₁ q => ?_)
      have q2 := q.2
      (refine R.boolC q2 fun z104 => ?_; clear q2; cases (z104))
      refine wpAny_truthy_bool ?_
      exact ⟨q.1, .bool _⟩
    · exact nn0 h
end XE
namespace XT
variable {u : U} {n : Nat} {C : Nm}
noncomputable def cmp (op : CmpOp) (a b : XE u n C) (p : Pos) (hm : behindInMarks op b.e = false) : XT u n C where
  e := .Compare a.e [op] [b.e] p
  den σ := match a.den σ with
    | .none => .none
    | some (x, _) => match b.den σ with
      | .none => .none
      | some (y, _) => cmpop op x y
  snd := by
    intro σ c h d s cs D I
    (refine Classical.byContradiction fun hnn => ?_; split at (h) <;> (refine hnn ?_; clear hnn))
    · exact nn0 h
    · rename_i x f hx
      (refine Classical.byContradiction fun hnn => ?_; split at (h) <;> (refine hnn ?_; clear hnn))
      · exact nn0 h
      · rename_i y g hy
        refine wpAny_isTrue_Compare1 (XE.two (a.snd σ x f hx) (b.snd σ y g hy) D I fun v w s' k I' r1 r2 => ?_) hm
        refine ex (cmpop_ok h (r1.mono (Le.hide _ _)) (r2.mono (Le.hide _ _)) (by have := D.room.units; omega)) fun _ _ q => ?_
        refine sA q fun z9 z10 => ?_; try clear q; (first | subst z9 | cases (z9)); (first | subst z10 | cases (z10))
        exact wpAny_truthy_bool ⟨k, rfl⟩
noncomputable def val (a : XE u n C) (hf : ∀ env whole, PySem.isTrue a.e env whole = (do let v ← whole; standAt a.e.pos; holding [v] (truthy v))) : XT u n C where
  e := a.e
  den σ := match a.den σ with
    | .none => .none
    | some (x, _) => truthV x
  snd := by
    intro σ c h d s cs D I
    (refine Classical.byContradiction fun hnn => ?_; split at (h) <;> (refine hnn ?_; clear hnn))
    · exact nn0 h
    · rename_i x f hx
      refine wpAny_isTrue_value (ex (a.snd σ x f hx d s cs D I) fun v s₁ q => ex (truthV_ok h q.2) fun _ _ r => ⟨q.1.trans r.1, r.2⟩) (hf _ _)
noncomputable def and2 (a b : XT u n C) (p : Pos) : XT u n C where
  e := .BoolOp .And [a.e, b.e] p
  den σ := match a.den σ with
    | some true => b.den σ
    | some false => some false
    | .none => .none
  snd := by
    intro σ c h d s cs D I
    (refine Classical.byContradiction fun hnn => ?_; split at (h) <;> (refine hnn ?_; clear hnn))
    · rename_i ha
      refine wpAny_isTrue_BoolOp (wpAny_allTrue_And_cons (ex (a.snd σ _ ha d s cs D I) fun z s₁ q => ?_))
      rw [q.2]
      simp only [if_true]
      refine wpAny_allTrue_And_cons (ex (b.snd σ _ h d s₁ cs D (I.keeps q.1.le)) fun z s₂ r => ?_)
      rw [r.2]
      cases c with
      | true => exact wpAny_allTrue_And_nil ⟨q.1.trans r.1, rfl⟩
      | false => exact ⟨q.1.trans r.1, rfl⟩
    · rename_i ha
      cases (h)
      refine wpAny_isTrue_BoolOp (wpAny_allTrue_And_cons (ex (a.snd σ _ ha d s cs D I) fun z s₁ q => ?_))
      rw [q.2]
      exact ⟨q.1, rfl⟩
    · exact nn0 h
end XT
structure XA (u : U) (n : Nat) (C : Nm) where
  x : XE u n C
  ns : isStarred x.e = false
section
variable {u : U} {n : Nat} {C : Nm}
noncomputable def denL : List (XA u n C) → List SV → Option (List V × Bool)
  | [], _ => some ([], false)
  | a :: r, σ => match a.x.den σ with
    | .none => .none
    | some (x, f) => match denL r σ with
      | .none => .none
      | some (xs, g) => some (x :: xs, f || g)
noncomputable def exprs (l : List (XA u n C)) : List PySem.Expr := l.map (·.x.e)
theorem star_ns {e : PySem.Expr} {rest : List PySem.Expr} {env : Env} (h : isStarred e = false) : starEach (e :: rest) env = (false, eval e env) :: starEach rest env := by
  cases (e) <;> first | rfl | exact nn3 h
theorem items_ok : ∀ {es : List (XA u n C)} {σ : List SV} {vs : List V} {b : Bool} {pos : Pos}, denL es σ = some (vs, b) → ∀ {d : Dy} {s : Shared} {cs : List CS}, DOk u n C d → Inv C d σ s.heap cs →
    wpAny (model u.prog u.w) d.A (spliced (backTo pos (starEach (exprs es) d.env))) (fun us s' => Kp s s' ∧ Rs (hideAll s'.heap (hid C d cs b)) vs us) NoE s
  | [], σ, vs, b, pos, h, d, s, cs, D, I => by
    cases (h)
    exact spliced_nil ⟨Kp.refl _, .nil⟩
  | a :: r, σ, vs, b, pos, h, d, s, cs, D, I => by
    unfold denL at h
    (refine Classical.byContradiction fun hnn => ?_; split at (h) <;> (refine hnn ?_; clear hnn))
    · exact nn0 h
    · rename_i x f hx
      (refine Classical.byContradiction fun hnn => ?_; split at (h) <;> (refine hnn ?_; clear hnn))
      · exact nn0 h
      · rename_i xs g hxs
        cases (h)
        refine wpAny_items_cons (ex (a.x.snd σ x f hx d s cs D I) fun v s₁ q => ex (items_ok hxs D (I.keeps q.1.le)) fun us s₂ r => ?_) (star_ns a.ns)
        exact ⟨q.1.trans r.1, .cons (hid_up r.1.le (by intro z; rw [z]; rfl) q.2) ((r.2.mono (hid_le _ (by intro z; rw [z]; exact Bool.or_true _))))⟩
theorem denL_len : ∀ {es : List (XA u n C)} {σ : List SV} {vs : List V} {b : Bool}, denL es σ = some (vs, b) → vs.length = es.length
  | [], _, _, _, h => by cases (h); rfl
  | a :: r, _, _, _, h => by
    unfold denL at h
    (refine Classical.byContradiction fun hnn => ?_; split at (h) <;> (refine hnn ?_; clear hnn))
    · exact nn0 h
    · (refine Classical.byContradiction fun hnn => ?_; split at (h) <;> (refine hnn ?_; clear hnn))
      · exact nn0 h
      · rename_i hxs
        cases (h)
        rw [List.length_cons, List.length_cons, denL_len hxs]
theorem back_ns : ∀ {es : List (XA u n C)} {pos : Pos} {env : Env}, (backTo pos (starEach (exprs es) env)).any (·.1) = false
  | [], _, _ => rfl
  | a :: r, pos, env => by
    show (backTo pos (starEach (a.x.e :: exprs r) env)).any (·.1) = false
    rw [star_ns a.ns]
    show (false || (backTo pos (starEach (exprs r) env)).any (·.1)) = false
    rw [back_ns]; rfl
noncomputable def Fn (u : U) (n : Nat) (f : Value) (args : List V) (r : V) : Prop :=
  ∀ (hb : Heap) (A : Around) (W : List Addr) (s : Shared) (vs : List Value), Base u hb → Room n A → LeB hb s.heap → (∀ a ∈ W, s.heap.get? a ≠ .none) → Rs (hideAll s.heap W) args vs →
    wpAny (model u.prog u.w) A (call f vs) (fun v s' => Kp s s' ∧ R (hideAll s'.heap W) r v) NoE s
theorem Fn.less {n m : Nat} {f : Value} {args : List V} {r : V} (h : Fn u m f args r) (k : m ≤ n) : Fn u n f args r := fun hb A W s vs B r l a x => h hb A W s vs B (r.less k) l a x
noncomputable def Keepable (u : U) (f : Value) : Prop := ∀ hb : Heap, u.K.In hb → ∃ k, (k = Keeper.frame ∨ k = Keeper.machine ∨ k = Keeper.boundFrame) ∧ Looks (model u.prog u.w) hb (keeperOf f) k
theorem Keepable.fn {f : Addr} (h : keepIn u.K (.ref f) = true) : Keepable u (.ref f) := fun hb X => keeps_K h hb X
theorem Keepable.bi {x : String} : Keepable u (.builtin x) := fun _ _ => ⟨.machine, .inr (.inl rfl), .now⟩
theorem Keepable.ty {x : String} : Keepable u (.type x) := fun _ _ => ⟨.machine, .inr (.inl rfl), .now⟩
theorem callWith_ok {es : List (XA u n C)} {σ : List SV} {vs : List V} {b : Bool} {p : Pos} {f : Value} {first : List Value} (hes : denL es σ = some (vs, b)) (hk : Keepable u f) {d : Dy} {s : Shared} {cs : List CS} (D : DOk u n C d) (I : Inv C d σ s.heap cs)
    {Q : Value → Shared → Prop} (h : ∀ us s', Kp s s' → Inv C d σ s'.heap cs → Rs (hideAll s'.heap (hid C d cs b)) vs us → wpAny (model u.prog u.w) d.A (call f (first ++ us)) Q NoE s') :
    wpAny (model u.prog u.w) d.A (callWith p f first (backTo p (starEach (exprs es) d.env)) (backToKw p (keywordEach [] d.env))) Q NoE s := by
  have hP : ∀ s', Kp s s' → u.K.In s'.heap := fun s' k => D.base.X.keeps (D.le.trans (I.keep.trans k.le))
  refine callWith_of (P := fun g => u.K.In g) (by rw [back_ns]; rfl) (fun g X => hk g X) ?_
  cases es with
  | nil =>
    cases (hes)
    refine evalArgs_nil3 ⟨hP _ (Kp.refl _), ?_⟩
    have := h [] s (Kp.refl _) I .nil
    simpa using this
  | cons a r =>
    have e : backTo p (starEach (exprs (a :: r)) d.env) = (false, eval a.x.e d.env) :: backTo p (starEach (exprs r) d.env) := by
      show backTo p (starEach (a.x.e :: exprs r) d.env) = _
      rw [star_ns a.ns]; rfl
    rw [e]
    refine evalArgs_plain ?_
    rw [← e]
    exact ex (items_ok hes D I) fun us s' q => ⟨hP _ q.1, h us s' q.1 (I.keeps q.1.le) q.2⟩
theorem CS.adr_alive' {h g : Heap} {sv : SV} {c : CS} (r : SR h g sv c) : ∀ a ∈ c.adr, h.get? a ≠ .none := by
  cases r with
  | unset => intro a m; exact nn4 m
  | val _ => intro a m; exact nn4 m
  | own p _ => intro a m; refine sEA p fun o e _ => ?_; try clear p; cases List.mem_singleton.mp m; rw [e]; exact fun z => by exact nn1 z
  | self e1 e2 _ =>
    intro a m
    rcases List.mem_cons.mp m with m | m
    · rw [m, e1]; exact fun z => by exact nn1 z
    · cases List.mem_singleton.mp m; rw [e2]; exact fun z => by exact nn1 z
theorem Inv.alive {d : Dy} {σ : List SV} {h : Heap} {cs : List CS} (D : DOk u n C d) (I : Inv C d σ h cs) : ∀ a ∈ d.W ++ wr C d cs, h.get? a ≠ .none := by
  intro a m
  rcases List.mem_append.mp m with m | m
  · cases e : d.he.get? a with
    | none => exact absurd e (D.alive a m)
    | some o => rw [I.keep _ _ e]; exact fun z => by exact nn1 z
  · rcases List.mem_cons.mp m with m | m
    · refine sEA I.ns fun mm z11 _ => ?_; refine sEEEA z11 fun o es ep e _ => ?_; try clear z11
      rw [m, e]; exact fun z => by exact nn1 z
    · rcases List.mem_append.mp m with m | m
      · refine sEA (List.mem_filterMap.mp m) fun p hp e => ?_
        refine sEA I.ns fun mm hn hs => ?_
        obtain ⟨i, hi, rfl⟩ := List.getElem_of_mem hp
        refine sE (get_of_len I.lenC hi) fun c hc => ?_
        have z := hs i _ c (List.getElem?_eq_getElem hi) hc
        (refine Classical.byContradiction fun hnn => ?_; split at (e) <;> (refine hnn ?_; clear hnn))
        · rename_i hk
          unfold Stored at z
          rw [hk] at z
          refine sEAEA z fun ca h1 o h2 _ => ?_; try clear z
          rw [h1] at e
          cases (e)
          rw [h2]; exact fun z => by exact nn1 z
        · exact nn0 e
      · refine sEA (List.mem_flatMap.mp m) fun c hc ha => ?_
        obtain ⟨i, hi, rfl⟩ := List.getElem_of_mem hc
        refine sE (get_of_len (I.lenS.trans I.lenC.symm) hi) fun sv hv => ?_
        exact CS.adr_alive' (I.sr i sv _ hv (List.getElem?_eq_getElem hi)) a ha
theorem Inv.alive' {d : Dy} {σ : List SV} {h : Heap} {cs : List CS} (D : DOk u n C d) (I : Inv C d σ h cs) (b : Bool) : ∀ a ∈ hid C d cs b, h.get? a ≠ .none := fun a m => by
  refine I.alive D a ?_
  unfold hid at m
  rcases List.mem_append.mp m with m | m
  · exact List.mem_append_left _ m
  · cases b with
    | true => exact List.mem_append_right _ (frm_wr m)
    | false => exact List.mem_append_right _ m
theorem Inv.leB {d : Dy} {σ : List SV} {h : Heap} {cs : List CS} (D : DOk u n C d) (I : Inv C d σ h cs) : LeB d.hb h := ⟨D.le.trans I.keep, by
  refine sEA I.ns fun m hn _ => ?_
  exact Nat.le_of_lt (Nat.lt_of_le_of_lt D.above hn.lt)⟩
structure Co (u : U) (n : Nat) (f : Value) where
  den : List V → Option V
  ok : ∀ args r, den args = some r → Fn u n f args r
end
namespace XE
variable {u : U} {n : Nat} {C : Nm}
noncomputable def list (es : List (XA u n C)) (p : Pos) (hl : es.length ≤ 1000) : XE u n C where
  e := .List (exprs es) p
  den σ := match denL es σ with
    | .none => .none
    | some (vs, b) => some (.list vs, b)
  snd := by
    intro σ v bb h d s cs D I
    (refine Classical.byContradiction fun hnn => ?_; split at (h) <;> (refine hnn ?_; clear hnn))
    · exact nn0 h
    · rename_i vs b hv
      cases (h)
      have hn := denL_len hv
      refine wpAny_List_spliced (ex (items_ok hv D I) fun us s' q => ⟨?_, q.1.trans (Kp.heap _ (Le.push _ _)), ?_⟩)
      · have e := q.2.length
        have : sizeLine = 2 ^ 24 := rfl
        omega
      · exact .list (vs := us) ⟨_, fresh_seen rfl ((I.keeps q.1.le).lt' D _), rfl, _, rfl⟩ (q.2.mono (Le.hides_same (Le.push _ _)))
noncomputable def tup (es : List (XA u n C)) (k : Nat) (p : Pos) (hl : es.length ≤ 1000) : XE u n C where
  e := .Tuple (exprs es) k p
  den σ := match denL es σ with
    | .none => .none
    | some (vs, b) => some (.tup vs, b)
  snd := by
    intro σ v bb h d s cs D I
    (refine Classical.byContradiction fun hnn => ?_; split at (h) <;> (refine hnn ?_; clear hnn))
    · exact nn0 h
    · rename_i vs b hv
      cases (h)
      have hn := denL_len hv
      refine wpAny_Tuple_spliced (ex (items_ok hv D I) fun us s' q => ⟨?_, q.1.trans (Kp.heap _ (Le.push _ _)), ?_⟩)
      · have e := q.2.length
        have : sizeLine = 2 ^ 24 := rfl
        omega
      · exact .tup (vs := us) ⟨_, fresh_seen rfl ((I.keeps q.1.le).lt' D _), rfl, _, rfl⟩ (q.2.mono (Le.hides_same (Le.push _ _)))
noncomputable def call (x : Str) (f : Value) (co : Co u n f) (es : List (XA u n C)) (np p : Pos) (e : u.G.lookup x = some f) (hk : Keepable u f) (hx : x ∈ C.globs) (hd : (x == ("__debug__" : Str)) = false) : XE u n C where
  e := .Call (.Name x np) (exprs es) [] p
  den σ := match denL es σ with
    | .none => .none
    | some (vs, b) => match co.den vs with
      | .none => .none
      | some r => some (r, b)
  snd := by
    intro σ v bb h d s cs D I
    (refine Classical.byContradiction fun hnn => ?_; split at (h) <;> (refine hnn ?_; clear hnn))
    · exact nn0 h
    · rename_i vs b hv
      (refine Classical.byContradiction fun hnn => ?_; split at (h) <;> (refine hnn ?_; clear hnn))
      · exact nn0 h
      · rename_i r hr
        cases (h)
        refine wpAny_Call_ofName (ex ((XE.glob (n := n) (C := C) x f np e hx hd).snd σ _ _ rfl d s cs D I) fun g s₁ q => ?_)
        cases q.2
        refine callWith_ok hv hk D (I.keeps q.1.le) fun us s₂ k I₂ rs => ?_
        exact ex (co.ok _ _ hr d.hb d.A _ s₂ us D.base D.room (I₂.leB D) (I₂.alive' D _) rs) fun _ _ z => ⟨(q.1.trans k).trans z.1, z.2⟩
noncomputable def callB (x : Str) (f : Value) (co : Co u n f) (es : List (XA u n C)) (np p : Pos) (e : u.B.lookup x = some f) (hk : Keepable u f) (hx : x ∈ C.globs) (hd : (x == ("__debug__" : Str)) = false) : XE u n C where
  e := .Call (.Name x np) (exprs es) [] p
  den σ := match denL es σ with
    | .none => .none
    | some (vs, b) => match co.den vs with
      | .none => .none
      | some r => some (r, b)
  snd := by
    intro σ v bb h d s cs D I
    (refine Classical.byContradiction fun hnn => ?_; split at (h) <;> (refine hnn ?_; clear hnn))
    · exact nn0 h
    · rename_i vs b hv
      (refine Classical.byContradiction fun hnn => ?_; split at (h) <;> (refine hnn ?_; clear hnn))
      · exact nn0 h
      · rename_i r hr
        cases (h)
        refine wpAny_Call_ofName (ex ((XE.bi (n := n) (C := C) x f np e hx hd).snd σ _ _ rfl d s cs D I) fun g s₁ q => ?_)
        cases q.2
        refine callWith_ok hv hk D (I.keeps q.1.le) fun us s₂ k I₂ rs => ?_
        exact ex (co.ok _ _ hr d.hb d.A _ s₂ us D.base D.room (I₂.leB D) (I₂.alive' D _) rs) fun _ _ z => ⟨(q.1.trans k).trans z.1, z.2⟩
theorem tail_gen {prog : Program} {w : World} {A : Around} {E : Value → Shared → Prop} {s : Shared} {value slice : PySem.Expr} {o i : Value} {T id : String} {Q : Value → Shared → Prop}
    (hT : s.TypeIs o T) (hl : typeLookup (.type T) "__getitem__" = pure (some (.builtin id))) (h : wpAny (model prog w) A (getItem o i) Q E s) : wpAny (model prog w) A (subscriptTail value slice o i) Q E s := by
  have hs : ∃ ops, subscripted slice false o i = operate ops (getItem o i) := by
    unfold subscripted
    split
    · exact ⟨_, rfl⟩
    · rename_i q; exact nn2 q
    · exact ⟨_, rfl⟩
  have z12 := hs; clear hs; refine sE z12 fun ops hs => ?_; clear z12
  exact tail_any hT hl h hs
noncomputable def getV (a i : V) : Option V := match a, i with
  | .list xs, .int k => if decide (0 ≤ k) && decide (k < 1048576) then xs[k.toNat]? else .none
  | .tup xs, .int k => if decide (0 ≤ k) && decide (k < 1048576) then xs[k.toNat]? else .none
  | _, _ => .none
noncomputable def idx (a b : XE u n C) (p : Pos) : XE u n C where
  e := .Subscript a.e b.e p
  den σ := match a.den σ with
    | .none => .none
    | some (x, f) => match b.den σ with
      | .none => .none
      | some (y, g) => match getV x y with
        | .none => .none
        | some z => some (z, f || g)
  snd := by
    intro σ v bb h d s cs D I
    (refine Classical.byContradiction fun hnn => ?_; split at (h) <;> (refine hnn ?_; clear hnn))
    · exact nn0 h
    · rename_i x f hx
      (refine Classical.byContradiction fun hnn => ?_; split at (h) <;> (refine hnn ?_; clear hnn))
      · exact nn0 h
      · rename_i y g hy
        (refine Classical.byContradiction fun hnn => ?_; split at (h) <;> (refine hnn ?_; clear hnn))
        · exact nn0 h
        · rename_i z hz
          cases (h)
          refine Subscript_ (two (a.snd σ x f hx) (b.snd σ y g hy) D I fun v w s' k I' r1 r2 => ?_)
          unfold getV at hz
          (refine Classical.byContradiction fun hnn => ?_; split at (hz) <;> (refine hnn ?_; clear hnn))
          · (refine Classical.byContradiction fun hnn => ?_; split at (hz) <;> (refine hnn ?_; clear hnn))
            · rename_i q
              rw [Bool.and_eq_true, decide_eq_true_eq, decide_eq_true_eq] at q
              (refine R.intC r2 fun _ z147 => ?_; clear r2; cases (z147))
              refine R.listC r1 fun vs l eqx hl hr => ?_
              clear r1; cases (eqx)
              refine sEA (hr.get hz) fun w hw hr' => ?_
              have hl' := IsList.of_hide hl
              exact tail_gen hl'.typeIs slot_list_getitem.lookup (wpAny_getItem_list hl' q.1 (by omega) (by simpa using hw) ⟨k, hr'⟩)
            · exact nn0 hz
          · rename_i xs kk
            (refine Classical.byContradiction fun hnn => ?_; split at (hz) <;> (refine hnn ?_; clear hnn))
            · rename_i q
              rw [Bool.and_eq_true, decide_eq_true_eq, decide_eq_true_eq] at q
              (refine R.intC r2 fun _ z149 => ?_; clear r2; cases (z149))
              refine R.tupC r1 fun vs l eqx hl hr => ?_
              clear r1; cases (eqx)
              refine sEA (hr.get hz) fun w hw hr' => ?_
              have hl' := IsTup.of_hide hl
              have hlt : kk.toNat < vs.length := by
                rcases Nat.lt_or_ge kk.toNat vs.length with z | z
                · exact z
                · rw [List.getElem?_eq_none z] at hw; exact nn0 hw
              have hj : seqIndex? kk vs.toArray.size = some kk.toNat := by
                unfold seqIndex?
                rw [List.size_toArray]
                have h1 : ¬ kk < 0 := by omega
                have h2 : kk < (vs.length : Int) := by omega
                simp [h1, h2, q.1]
              exact tail_gen hl'.typeIs slot_tuple_getitem.lookup (getItem_tuple hl' (by omega) (by omega) hj (by simpa using hw) ⟨k, hr'⟩)
            · exact nn0 hz
          · exact nn0 hz
end XE
section
variable {u : U} {n : Nat} {C : Nm}
noncomputable def denP : Option (XE u n C) → List SV → Option (Option Int)
  | .none, _ => some .none
  | some a, σ => match a.den σ with
    | some (.int k, _) => some (some k)
    | _ => .none
theorem part_ok {o : Option (XE u n C)} {σ : List SV} {k : Option Int} (h : denP o σ = some k) {d : Dy} {s : Shared} {cs : List CS} (D : DOk u n C d) (I : Inv C d σ s.heap cs) :
    wpAny (model u.prog u.w) d.A (evalPart (o.map (·.e)) d.env) (fun v s' => Kp s s' ∧ ∃ l : Option (Int × Tok), v = partValue l ∧ l.map (·.1) = k) NoE s := by
  cases o with
  | none => cases (h); exact wpAny_evalPart_none ⟨Kp.refl _, .none, rfl, rfl⟩
  | some a =>
    have h' : (match a.den σ with | some (.int k, _) => some (some k) | _ => .none) = some k := h
    (refine Classical.byContradiction fun hnn => ?_; split at (h') <;> (refine hnn ?_; clear hnn))
    · rename_i i f hx
      cases (h')
      refine wpAny_evalPart_some (ex (a.snd σ _ _ hx d s cs D I) fun x s₁ q => ?_)
      have q2 := q.2
      cases q2 with
      | int _ t => exact ⟨q.1, some (i, t), rfl, rfl⟩
    · exact nn0 h'
theorem isPart_of (l : Option (Int × Tok)) : IsPart (partValue l) (l.map (·.1)) := by
  cases l with
  | none => exact .none
  | some p => exact .int _ _
noncomputable def pickL {α : Type} (xs : List α) (lo hi st : Option Int) : List α :=
  (sliceRange (sliceBounds lo hi st xs.length).1 (sliceBounds lo hi st xs.length).2.1 (sliceBounds lo hi st xs.length).2.2).filterMap fun j => xs[j]?
noncomputable def pickS (x : Str) (lo hi st : Option Int) : Str :=
  if (st.getD 1 == 1 && (Builtin.Str.strSliceIndices lo hi (st.getD 1) x.length).length == x.length) = true then x
  else ⟨((Builtin.Str.strSliceIndices lo hi (st.getD 1) x.length).filterMap (x.cps[·]?)).toArray⟩
theorem Rs.pick {h : Heap} {xs : List V} {vs : List Value} (r : Rs h xs vs) : ∀ l : List Nat, Rs h (l.filterMap fun j => xs[j]?) (l.filterMap fun j => vs[j]?)
  | [] => .nil
  | j :: l => by
    rw [List.filterMap_cons, List.filterMap_cons]
    cases e : xs[j]? with
    | none =>
      have e2 : vs[j]? = .none := by
        rw [List.getElem?_eq_none_iff] at e ⊢
        rw [← r.length]; exact e
      rw [e2]; exact Rs.pick r l
    | some x =>
      refine sEA (r.get e) fun v e2 hr => ?_
      rw [e2]; exact .cons hr (Rs.pick r l)
noncomputable def sliceV (a : V) (lo hi st : Option Int) : Option V := match a with
  | .list xs => if lenOk xs.length && (st != some 0) then some (.list (pickL xs lo hi st)) else .none
  | .str x => if lenOk (pickS x lo hi st).length && (st != some 0) then some (.str (pickS x lo hi st)) else .none
  | _ => .none
end
namespace XE
variable {u : U} {n : Nat} {C : Nm}
noncomputable def slice (a : XE u n C) (lo hi st : Option (XE u n C)) (p1 p : Pos) : XE u n C where
  e := .Subscript a.e (.Slice (lo.map (·.e)) (hi.map (·.e)) (st.map (·.e)) p1) p
  den σ := match a.den σ with
    | .none => .none
    | some (x, f) => match denP lo σ, denP hi σ, denP st σ with
      | some l, some h, some t => match sliceV x l h t with
        | .none => .none
        | some z => some (z, f)
      | _, _, _ => .none
  snd := by
    intro σ v bb h d s cs D I
    (refine Classical.byContradiction fun hnn => ?_; split at (h) <;> (refine hnn ?_; clear hnn))
    · exact nn0 h
    · rename_i x f hx
      (refine Classical.byContradiction fun hnn => ?_; split at (h) <;> (refine hnn ?_; clear hnn))
      · rename_i l hh t h1 h2 h3
        (refine Classical.byContradiction fun hnn => ?_; split at (h) <;> (refine hnn ?_; clear hnn))
        · exact nn0 h
        · rename_i z hz
          cases (h)
          refine Subscript_ (ex (a.snd σ _ _ hx d s cs D I) fun o s₁ q => ?_)
          have I1 := I.keeps q.1.le
          refine wpAny_Slice (ex (part_ok h1 D I1) fun vl s₂ q2 => ?_)
          have I2 := I1.keeps q2.1.le
          refine ex (part_ok h2 D I2) fun vh s₃ q3 => ?_
          have I3 := I2.keeps q3.1.le
          refine ex (part_ok h3 D I3) fun vt s₄ q4 => ?_
          have I4 := I3.keeps q4.1.le
          refine sAEA q2 fun k2 pl z13 el => ?_; try clear q2; (first | subst z13 | cases (z13))
          refine sAEA q3 fun k3 ph z14 eh => ?_; try clear q3; (first | subst z14 | cases (z14))
          refine sAEA q4 fun k4 pt z15 et => ?_; try clear q4; (first | subst z15 | cases (z15))
          have kk := ((q.1.trans k2).trans k3).trans k4
          have r := q.2.mono (Le.hides_same (((k2.trans k3).trans k4).le.trans (Le.push s₄.heap { cls := .type "slice", data := .fields #[partValue pl, partValue ph, partValue pt] })))
          have hlt : ∀ a ∈ hid C d cs bb, a < (s₄.heap.push { cls := .type "slice", data := .fields #[partValue pl, partValue ph, partValue pt] }).objs.size := fun a m => by
            rw [Heap.size_push]; exact Nat.lt_succ_of_lt (I4.lt' D _ a m)
          unfold sliceV at hz
          (refine Classical.byContradiction fun hnn => ?_; split at (hz) <;> (refine hnn ?_; clear hnn))
          · rename_i xs
            (refine Classical.byContradiction fun hnn => ?_; split at (hz) <;> (refine hnn ?_; clear hnn))
            · rename_i q5
              cases (hz)
              rw [Bool.and_eq_true, bne_iff_ne] at q5
              have hsz := of_decide_eq_true q5.1
              refine R.listC r fun vs la eqx hl hr => ?_
              clear r; cases (eqx)
              have hl' := IsList.of_hide hl
              have e := hr.length
              refine tail_gen hl'.typeIs slot_list_getitem.lookup (wpAny_getItem_list_slice (lo := l) (hi := hh) (st := t) hl' ⟨_, Heap.get?_push_size _ rfl, rfl, rfl⟩ (el ▸ isPart_of pl) (eh ▸ isPart_of ph) (et ▸ isPart_of pt) q5.2 ⟨?_, ?_⟩ ?_)
              · exact (kk.trans (Kp.heap _ (Le.push _ _))).trans (Kp.heap _ (Le.push _ _))
              · refine .list (vs := pickL vs l hh t) ⟨_, fresh_seen rfl hlt, rfl, 0, ?_⟩ ?_
                · unfold slicePick pickL
                  simp
                · unfold pickL
                  rw [e]
                  exact (hr.pick _).mono (Le.hides_same (Le.push _ _))
              · have : sizeLine = 2 ^ 24 := rfl
                rw [List.size_toArray]; omega
            · exact nn0 hz
          · rename_i y
            (refine Classical.byContradiction fun hnn => ?_; split at (hz) <;> (refine hnn ?_; clear hnn))
            · rename_i q5
              cases (hz)
              rw [Bool.and_eq_true, bne_iff_ne] at q5
              have hsz := of_decide_eq_true q5.1
              refine R.strC r fun tk eqx => ?_
              clear r; cases (eqx)
              refine tail_gen (typeIs_str _ y tk) PySem.F.slot_str_getitem.lookup (wpAny_getItem_str_slice (l := pl) (u := ph) (st := pt) ⟨_, Heap.get?_push_size _ rfl, rfl, rfl⟩ ?_ ?_)
              · rw [et]
                cases t with
                | none => rfl
                | some i => exact beq_eq_false_iff_ne.mpr fun z => q5.2 (by rw [show i = 0 from z])
              · have e1 : sliceMade y tk pl ph pt = if (t.getD 1 == 1 && (Builtin.Str.strSliceIndices l hh (t.getD 1) y.length).length == y.length) = true then .val (.str y tk) else .str ⟨((Builtin.Str.strSliceIndices l hh (t.getD 1) y.length).filterMap (y.cps[·]?)).toArray⟩ := by
                  unfold sliceMade slicePicked
                  rw [el, eh, et]
                rw [e1]
                by_cases z : (t.getD 1 == 1 && (Builtin.Str.strSliceIndices l hh (t.getD 1) y.length).length == y.length) = true
                · have e2 : pickS y l hh t = y := if_pos z
                  rw [if_pos z, e2]
                  exact ⟨kk.trans (Kp.heap _ (Le.push _ _)), .str _ _⟩
                · have e2 : pickS y l hh t = ⟨((Builtin.Str.strSliceIndices l hh (t.getD 1) y.length).filterMap (y.cps[·]?)).toArray⟩ := if_neg z
                  rw [if_neg z, e2]
                  rw [e2] at hsz
                  exact ⟨Nat.le_trans hsz (by decide), (kk.trans (Kp.heap _ (Le.push _ _))).trans (Kp.tok _ _), .str _ _⟩
            · exact nn0 hz
          · exact nn0 hz
      · exact nn0 h
end XE
section
variable {u : U} {n : Nat} {C : Nm}
noncomputable def Sm (s s' : Shared) : Prop := ∃ h tk, s' = { s with heap := h, toks := tk }
theorem Sm.refl (s : Shared) : Sm s s := ⟨s.heap, s.toks, rfl⟩
theorem Sm.trans {a b c : Shared} (x : Sm a b) (y : Sm b c) : Sm a c := by
  refine sEE x fun h1 t1 z16 => ?_; try clear x; (first | subst z16 | cases (z16))
  refine sEE y fun h2 t2 z17 => ?_; try clear y; (first | subst z17 | cases (z17))
  exact ⟨h2, t2, rfl⟩
theorem Kp.sm {s s' : Shared} (k : Kp s s') : Sm s s' := let ⟨h, t, e, _⟩ := k; ⟨h, t, e⟩
theorem adrs_set {cs : List CS} {i : Nat} {new : CS} {a : Addr} (m : a ∈ adrs (cs.set i new)) : a ∈ adrs cs ∨ a ∈ new.adr := by
  refine sEA (List.mem_flatMap.mp m) fun c hc ha => ?_
  rcases List.mem_or_eq_of_mem_set hc with hc | rfl
  · exact .inl (List.mem_flatMap.mpr ⟨c, hc, ha⟩)
  · exact .inr ha
theorem wr_set {d : Dy} {cs : List CS} {i : Nat} {new : CS} {a : Addr} (m : a ∈ wr C d (cs.set i new)) : a ∈ wr C d cs ∨ a ∈ new.adr := by
  rcases List.mem_cons.mp m with m | m
  · exact .inl (m ▸ List.mem_cons_self)
  · rcases List.mem_append.mp m with m | m
    · exact .inl (List.mem_cons_of_mem _ (List.mem_append_left _ m))
    · rcases adrs_set m with m | m
      · exact .inl (List.mem_cons_of_mem _ (List.mem_append_right _ m))
      · exact .inr m
theorem L_wr {d : Dy} {cs : List CS} : d.env.locals ∈ wr C d cs := List.mem_cons_self
noncomputable def SameFrm (C : Nm) (d : Dy) (h h' : Heap) : Prop := ∀ b o, b ∉ frm C d → h.get? b = some o → h'.get? b = some o
theorem set_get {α : Type} {l : List α} {i j : Nat} {x y : α} (h : (l.set i x)[j]? = some y) : (i = j ∧ y = x) ∨ (i ≠ j ∧ l[j]? = some y) := by
  by_cases q : i = j
  · subst q
    rw [List.getElem?_set] at h
    simp at h
    exact .inl ⟨rfl, h.2.symm⟩
  · rw [List.getElem?_set_ne q] at h
    exact .inr ⟨q, h⟩
theorem Inv.plain_frm {d : Dy} {σ : List SV} {h : Heap} {cs : List CS} (I : Inv C d σ h cs) {y : Addr} {c : Value} {dd : Option Addr} {sl : Array (Option Value)} (e : h.get? y = some ⟨c, dd, .plain, sl⟩) : y ∉ frm C d := fun m => by
  rcases List.mem_cons.mp m with m | m
  · refine sEA I.ns fun mm z18 _ => ?_; refine sEEEAA z18 fun o es ep e2 e3 _ => ?_; try clear z18
    rw [m, e2] at e; cases (e); cases (e3)
  · refine sEA (List.mem_filterMap.mp m) fun p hp e1 => ?_
    refine sEA I.ns fun mm hn hs => ?_
    obtain ⟨i, hi, rfl⟩ := List.getElem_of_mem hp
    refine sE (get_of_len I.lenC hi) fun c hc => ?_
    have z := hs i _ c (List.getElem?_eq_getElem hi) hc
    (refine Classical.byContradiction fun hnn => ?_; split at (e1) <;> (refine hnn ?_; clear hnn))
    · rename_i hk
      unfold Stored at z
      rw [hk] at z
      refine sEAEA z fun ca h1 o h2 h3 => ?_; try clear z
      rw [h1] at e1
      cases (e1)
      rw [h2] at e; cases (e); cases (h3)
    · exact nn0 e1
theorem Inv.store {d : Dy} {σ : List SV} {h0 h h' : Heap} {cs : List CS} {i : Nat} {x : Str} {k : NameKind} {new : CS} {sv : SV} (D : DOk u n C d) (I : Inv C d σ h0 cs) (K : Le h0 h) (hx : C.slots[i]? = some (x, k))
    (hf : ∀ a ∈ new.adr, h0.get? a = .none) (hs : SR h (hideAll h (d.W ++ wr C d (cs.set i new))) sv new)
    (hn : SameFrm C d h h') (hL : ∀ c ∈ new.adr, c ∉ frm C d) (hself : ∀ y dy, new = .self y dy → (y, dy) ∈ d.slf)
    (hst : ∃ m, h'.Ns d.env.locals m ∧ ∀ (j : Nat) (p : Str × NameKind) (c : CS), C.slots[j]? = some p → (cs.set i new)[j]? = some c → Stored h' d.env m p c.value) :
    Inv C d (σ.set i sv) h' (cs.set i new) where
  ns := hst
  lenS := by rw [List.length_set]; exact I.lenS
  lenC := by rw [List.length_set]; exact I.lenC
  sr := by
    intro j sv' c e1 e2
    have up2 : Le (hideAll h (d.W ++ wr C d (cs.set i new))) (hideAll h' (d.W ++ wr C d (cs.set i new))) := Le.hides fun b o e nn => ⟨hn b o (fun q => nn (List.mem_append_right _ (frm_wr q))) e, nn⟩
    rcases set_get e2 with ⟨rfl, rfl⟩ | ⟨ne, e2⟩
    · rcases set_get e1 with ⟨_, rfl⟩ | ⟨ne, _⟩
      · cases hs with
        | unset => exact .unset
        | val r => exact .val (r.mono up2)
        | own p r =>
          refine sEA p fun q e z => ?_; try clear p
          exact .own ⟨q, hn _ _ (hL _ (List.mem_singleton.mpr rfl)) e, z⟩ (r.mono up2)
        | @self c y dy fs es q e3 e4 r =>
          exact .self (hn _ _ (hL _ List.mem_cons_self) e3) (hn _ _ (hL _ (List.mem_cons_of_mem _ (List.mem_singleton.mpr rfl))) e4) (r.mono up2)
      · exact absurd rfl ne
    · rcases set_get e1 with ⟨eq, _⟩ | ⟨_, e1⟩
      · exact absurd eq ne
      · have r := I.sr j sv' c e1 e2
        have up : Le (hideAll h0 (d.W ++ wr C d cs)) (hideAll h' (d.W ++ wr C d (cs.set i new))) := Le.hides fun b o e nn => by
          refine ⟨hn b o (fun q => nn (List.mem_append_right _ (frm_wr q))) (K b o e), fun q => ?_⟩
          rcases List.mem_append.mp q with q | q
          · exact nn (List.mem_append_left _ q)
          · rcases wr_set q with q | q
            · exact nn (List.mem_append_right _ q)
            · rw [hf _ q] at e; exact nn0 e
        have cm : c ∈ cs := List.mem_of_getElem? e2
        cases r with
        | unset => exact .unset
        | val r => exact .val (r.mono up)
        | @own _ _ _ a p r =>
          refine sEA p fun q e z => ?_; try clear p
          have ha : a ∈ adrs cs := List.mem_flatMap.mpr ⟨_, cm, List.mem_singleton.mpr rfl⟩
          refine .own ⟨q, hn _ _ (fun m => ?_) (K _ _ e), z⟩ (r.mono up)
          rcases List.mem_cons.mp m with m | m
          · exact I.LC (m ▸ List.mem_append_right _ ha)
          · exact I.CA _ m ha
        | @self _ y dy _ _ _ e3 e4 r =>
          have ha : dy ∈ adrs cs := List.mem_flatMap.mpr ⟨_, cm, List.mem_cons_of_mem _ (List.mem_singleton.mpr rfl)⟩
          refine .self (hn _ _ (fun m => ?_) (K _ _ e3)) (hn _ _ (fun m => ?_) (K _ _ e4)) (r.mono up)
          · exact I.plain_frm e3 m
          · rcases List.mem_cons.mp m with m | m
            · exact I.LC (m ▸ List.mem_append_right _ ha)
            · exact I.CA _ m ha
  keep := fun b o e => hn b o (fun q => by rw [I.fresh b (frm_wr q)] at e; exact nn0 e) (K b o (I.keep b o e))
  fresh := fun a m => by
    rcases wr_set m with m | m
    · exact I.fresh a m
    · exact I.keep.none (hf a m)
  LC := fun m => by
    rcases List.mem_append.mp m with m | m
    · exact I.LC (List.mem_append_left _ m)
    · rcases adrs_set m with m | m
      · exact I.LC (List.mem_append_right _ m)
      · exact I.alive D _ (List.mem_append_right _ L_wr) (hf _ m)
  CA := fun a m q => by
    rcases adrs_set q with q | q
    · exact I.CA a m q
    · exact I.alive D a (List.mem_append_right _ (frm_wr (List.mem_cons_of_mem _ m))) (hf _ q)
  own := fun j l c c' ne e1 e2 a m1 m2 => by
    rcases set_get e1 with ⟨rfl, rfl⟩ | ⟨_, z1⟩
    · rcases set_get e2 with ⟨rfl, _⟩ | ⟨_, e2⟩
      · exact ne rfl
      · have ha : a ∈ adrs cs := List.mem_flatMap.mpr ⟨_, List.mem_of_getElem? e2, m2⟩
        exact I.alive D a (List.mem_append_right _ (List.mem_cons_of_mem _ (List.mem_append_right _ ha))) (hf _ m1)
    · have e1' := z1
      rcases set_get e2 with ⟨rfl, rfl⟩ | ⟨_, e2⟩
      · have ha : a ∈ adrs cs := List.mem_flatMap.mpr ⟨_, List.mem_of_getElem? e1', m1⟩
        exact I.alive D a (List.mem_append_right _ (List.mem_cons_of_mem _ (List.mem_append_right _ ha))) (hf _ m2)
      · exact I.own j l c c' ne e1' e2 a m1 m2
  slf := fun j y dy e => by
    rcases set_get e with ⟨_, e⟩ | ⟨_, e⟩
    · exact hself y dy e.symm
    · exact I.slf j y dy e
end
section
variable {u : U} {n : Nat} {C : Nm}
theorem nodup_ne {l : List (Str × NameKind)} (h : (l.map (·.1)).Nodup) {i j : Nat} {p q : Str × NameKind} (e1 : l[i]? = some p) (e2 : l[j]? = some q) (ne : i ≠ j) : q.1 ≠ p.1 := fun e => by
  have a : (l.map (·.1))[i]? = some p.1 := by rw [List.getElem?_map, e1]; rfl
  have b : (l.map (·.1))[j]? = some p.1 := by rw [List.getElem?_map, e2]; exact congrArg some e
  have hi : i < (l.map (·.1)).length := by
    rcases Nat.lt_or_ge i (l.map (·.1)).length with z | z
    · exact z
    · rw [List.getElem?_eq_none z] at a; exact nn0 a
  exact ne ((List.getElem?_inj hi h).mp (a.trans b.symm))
theorem store_name {d : Dy} {σ : List SV} {h0 : Heap} {s : Shared} {cs : List CS} {i : Nat} {x : Str} {k : NameKind} {new : CS} {v : Value} (D : DOk u n C d) (I : Inv C d σ h0 cs) (K : Le h0 s.heap) (hx : C.slots[i]? = some (x, k)) (hk : k ≠ .free) (hv : new.value = some v) :
    wpAny (model u.prog u.w) d.A (storeName d.env x v) (fun _ s' => Sm s s' ∧ SameFrm C d s.heap s'.heap ∧
      ∃ m, s'.heap.Ns d.env.locals m ∧ ∀ (j : Nat) (p : Str × NameKind) (c : CS), C.slots[j]? = some p → (cs.set i new)[j]? = some c → Stored s'.heap d.env m p c.value) NoE s := by
  refine sEA I.ns fun m hn0 hs0 => ?_
  have hn := hn0.keeps K
  have hs : ∀ (j : Nat) (p : Str × NameKind) (c : CS), C.slots[j]? = some p → cs[j]? = some c → Stored s.heap d.env m p c.value := fun j p c a b => (hs0 j p c a b).keeps K
  have hm : (x, k) ∈ C.slots := List.mem_of_getElem? hx
  have hkind := (D.env.kinds _ hm).resolve_right fun z => hk z.1
  rcases D.env.three _ hm with q | q | q
  · cases (q)
    refine wpAny_storeName_local hkind hn (fun h' hn' hsame => ⟨⟨h', _, rfl⟩, fun b o nb e => hsame.extBut b o (fun q => nb (q ▸ List.mem_cons_self)) e, _, hn', fun j p c e1 e2 => ?_⟩) (by rw [D.env.kind]; rfl)
    rcases set_get e2 with ⟨rfl, rfl⟩ | ⟨ne, e2'⟩
    · rw [hx] at e1; cases (e1)
      show (if x = x then some v else m x) = c.value
      rw [if_pos rfl, hv]
    · have z := hs j p c e1 e2'
      have nn := nodup_ne D.env.nodup hx e1 ne
      unfold Stored at z ⊢
      split
      · rename_i hp
        rw [hp] at z
        show (if p.1 = x then some v else m p.1) = c.value
        rw [if_neg nn]; exact z
      · rename_i hp
        have z : ∃ ca, d.env.cells.lookup p.1 = some ca ∧ s.heap.IsCell ca c.value := by
          revert z; split
          · rename_i q; exact fun _ => absurd q hp
          · exact id
        refine sEA z fun ca h1 h2 => ?_; try clear z
        refine ⟨ca, h1, h2.sameBut hsame fun q => ?_⟩
        refine sEA h2 fun o ho hd => ?_; try clear h2
        refine sEEEAA hn fun o' es ep ho' hd' _ => ?_; try clear hn
        rw [q, ho'] at ho; cases (ho); rw [hd'] at hd; cases (hd)
  · cases (q)
    have hj : ∃ c, cs[i]? = some c := by
      have hi : i < C.slots.length := by
        rcases Nat.lt_or_ge i C.slots.length with q | q
        · exact q
        · rw [List.getElem?_eq_none q] at hx; exact nn0 hx
      exact get_of_len I.lenC hi
    refine sE hj fun c0 hc0 => ?_; try clear hj
    refine sEA (hs i _ c0 hx hc0) fun ca h1 h2 => ?_
    have hcL : ca ≠ d.env.locals := fun q => by
      refine sEA h2 fun o ho hd => ?_; try clear h2
      refine sEEEAA hn fun o' es ep ho' hd' _ => ?_; try clear hn
      rw [q, ho'] at ho; cases (ho); rw [hd'] at hd; cases (hd)
    have hmem : ca ∈ frm C d := List.mem_cons_of_mem _ (List.mem_filterMap.mpr ⟨_, hm, by simpa using h1⟩)
    refine wpAny_storeName_cell D.env.kind hkind h1 h2 fun h' hcell hsame => ⟨⟨h', s.toks, rfl⟩, fun b o nb e => hsame.extBut b o (fun q => nb (q ▸ hmem)) e, m, hn.sameBut hsame (Ne.symm hcL), fun j p c e1 e2 => ?_⟩
    rcases set_get e2 with ⟨rfl, rfl⟩ | ⟨ne, e2'⟩
    · rw [hx] at e1; cases (e1)
      exact ⟨ca, h1, hv ▸ hcell⟩
    · have z := hs j p c e1 e2'
      have nn := nodup_ne D.env.nodup hx e1 ne
      unfold Stored at z ⊢
      split
      · rename_i hp
        rw [hp] at z
        exact z
      · rename_i hp
        have z : ∃ ca, d.env.cells.lookup p.1 = some ca ∧ s.heap.IsCell ca c.value := by
          revert z; split
          · rename_i q; exact fun _ => absurd q hp
          · exact id
        refine sEA z fun cb g1 g2 => ?_; try clear z
        refine ⟨cb, g1, g2.sameBut hsame fun q => ?_⟩
        exact nn (D.env.dist p (List.mem_of_getElem? e1) _ hm (fun z => hp z) (fun z => by cases (z)) cb g1 (q ▸ h1))
  · exact absurd q hk
theorem store_val {d : Dy} {σ : List SV} {s : Shared} {cs : List CS} {i : Nat} {x : Str} {k : NameKind} {av : V} {v : Value} (D : DOk u n C d) (I : Inv C d σ s.heap cs) (hx : C.slots[i]? = some (x, k)) (hk : k ≠ .free)
    (r : R (hideAll s.heap (hid C d cs false)) av v) :
    wpAny (model u.prog u.w) d.A (storeName d.env x v) (fun _ s' => Sm s s' ∧ ∃ cs', Inv C d (σ.set i (.val av)) s'.heap cs' ∧ Le (hideAll s.heap (hid C d cs false)) (hideAll s'.heap (hid C d cs' false)) ∧ ∀ a ∈ wr C d cs', a ∈ wr C d cs) NoE s :=
  ex (store_name D I (Le.refl _) hx hk (new := .val v) rfl) fun _ s' q => by
    refine sAA q fun q1 q2 q3 => ?_; try clear q
    have sub : ∀ a ∈ wr C d (cs.set i (.val v)), a ∈ wr C d cs := fun a m => (wr_set m).elim id fun z => by exact nn4 z
    refine ⟨q1, _, Inv.store D I (Le.refl _) hx (fun a m => by exact nn4 m) (.val (r.mono (Le.hides_sub fun a m => ?_))) q2 (fun a m => by exact nn4 m) (fun y dy e => by cases (e)) q3, ?_, sub⟩
    · rcases List.mem_append.mp m with m | m
      · exact List.mem_append_left _ m
      · exact List.mem_append_right _ (sub a m)
    · refine Le.hides fun b o e nn => ⟨q2 b o (fun m => nn (List.mem_append_right _ (frm_wr m))) e, fun m => ?_⟩
      rcases List.mem_append.mp m with m | m
      · exact nn (List.mem_append_left _ m)
      · exact nn (List.mem_append_right _ (sub b m))
theorem store_own {d : Dy} {σ : List SV} {h0 : Heap} {s : Shared} {cs : List CS} {i : Nat} {x : Str} {k : NameKind} {xs : List V} {us : List Value} {a : Addr} (D : DOk u n C d) (I : Inv C d σ h0 cs) (K : Le h0 s.heap) (hx : C.slots[i]? = some (x, k)) (hk : k ≠ .free)
    {pf : Bool} (ha : h0.get? a = .none) (p : s.heap.PlainList a us.toArray) (r : Rs (hideAll h0 (hid C d cs false)) xs us) :
    wpAny (model u.prog u.w) d.A (storeName d.env x (.ref a)) (fun _ s' => Sm s s' ∧ ∃ cs', Inv C d (σ.set i (.own pf xs)) s'.heap cs') NoE s :=
  ex (store_name D I K hx hk (new := .own a) rfl) fun _ s' q => by
    refine sAA q fun q1 q2 q3 => ?_; try clear q
    refine ⟨q1, _, Inv.store D I K hx (fun b m => by cases List.mem_singleton.mp m; exact ha) (.own (OwnL.of_plain p) (r.mono (Le.hides fun b o e nn => ⟨K _ _ e, fun m => ?_⟩))) q2 (fun b m => ?_) (fun y dy e => by cases (e)) q3⟩
    · rcases List.mem_append.mp m with m | m
      · exact nn (List.mem_append_left _ m)
      · rcases wr_set m with m | m
        · exact nn (List.mem_append_right _ m)
        · cases List.mem_singleton.mp m
          rw [ha] at e; exact nn0 e
    · cases List.mem_singleton.mp m
      exact fun z => I.alive D _ (List.mem_append_right _ (frm_wr z)) ha
end
inductive Fl where
  | next
  | brk
  | ret (v : V)
noncomputable def FlR (C : Nm) (d : Dy) (h : Heap) : Fl → Flow → Prop
  | .next, f => f = .next
  | .brk, f => f = .brk
  | .ret v, f => ∃ x, f = .ret x ∧ R (hideAll h (d.W ++ frm C d)) v x
noncomputable def SX (u : U) (n : Nat) (C : Nm) (t : Dy → Sem Flow) (σ : List SV) (fl : Fl) (σ' : List SV) : Prop :=
  ∀ (d : Dy) (s : Shared) (cs : List CS), DOk u n C d → Inv C d σ s.heap cs →
    wpAny (model u.prog u.w) d.A (t d) (fun f s' => Sm s s' ∧ ∃ cs', Inv C d σ' s'.heap cs' ∧ FlR C d s'.heap fl f) NoE s
structure X1 (u : U) (n : Nat) (C : Nm) where
  st : Stmt
  den : List SV → Option (Fl × List SV)
  snd : ∀ σ fl σ', den σ = some (fl, σ') → SX u n C (fun d => exec st d.env) σ fl σ'
structure XS (u : U) (n : Nat) (C : Nm) where
  ss : List Stmt
  den : List SV → Option (Fl × List SV)
  snd : ∀ σ fl σ', den σ = some (fl, σ') → SX u n C (fun d => execs ss d.env) σ fl σ'
namespace XS
variable {u : U} {n : Nat} {C : Nm}
noncomputable def nil : XS u n C where
  ss := []
  den σ := some (.next, σ)
  snd := by
    intro σ fl σ' h d s cs D I
    cases (h)
    exact wpAny_execs_nil ⟨Sm.refl _, cs, I, rfl⟩
noncomputable def cons (a : X1 u n C) (r : XS u n C) : XS u n C where
  ss := a.st :: r.ss
  den σ := match a.den σ with
    | some (.next, σ') => r.den σ'
    | x => x
  snd := by
    intro σ fl σ' h d s cs D I
    (refine Classical.byContradiction fun hnn => ?_; split at (h) <;> (refine hnn ?_; clear hnn))
    · rename_i σ₁ ha
      refine wpAny_execs_cons (ex (a.snd σ _ _ ha d s cs D I) fun f s₁ q => ?_)
      refine sAEA q fun q1 cs1 I1 z19 => ?_; try clear q; (first | subst z19 | cases (z19))
      exact ex (r.snd σ₁ fl σ' h d s₁ cs1 D I1) fun f s₂ r => ⟨q1.trans r.1, r.2⟩
    · rename_i hne
      refine wpAny_execs_cons (ex (a.snd σ _ _ h d s cs D I) fun f s₁ q => ?_)
      refine sAEA q fun q1 cs1 I1 hf => ?_; try clear q
      cases fl with
      | next => exact absurd h (hne _)
      | brk => cases (hf); exact ⟨q1, cs1, I1, rfl⟩
      | ret v => refine sEA hf fun x z20 r => ?_; try clear hf; (first | subst z20 | cases (z20)); exact ⟨q1, cs1, I1, x, rfl, r⟩
end XS
namespace X1
variable {u : U} {n : Nat} {C : Nm}
theorem isFn {d : Dy} (D : DOk u n C d) : d.env.scope.kind = .function := D.env.kind
noncomputable def assign (i : Nat) (x : Str) (k : NameKind) (hx : C.slots[i]? = some (x, k)) (hk : k ≠ .free) (a : XE u n C) (p1 p : Pos) (hsw : ∀ env, swapsWith a.e (some (.Name x p1)) p.line env = pure false) : X1 u n C where
  st := .Assign [.Name x p1] a.e p
  den σ := match a.den σ with
    | some (v, false) => some (.next, σ.set i (.val v))
    | some (v, true) => if v.flat then some (.next, σ.set i (.val v)) else .none
    | .none => .none
  snd := by
    intro σ fl σ' h d s cs D I
    have key : ∀ v b, a.den σ = some (v, b) → (b = true → v.flat = true) → wpAny (model u.prog u.w) d.A (exec (.Assign [.Name x p1] a.e p) d.env) (fun f s' => Sm s s' ∧ ∃ cs', Inv C d (σ.set i (.val v)) s'.heap cs' ∧ FlR C d s'.heap .next f) NoE s := fun v b ha hb => by
      refine wpAny_Assign_Name (ex (a.snd σ v b ha d s cs D I) fun w s₁ q => ?_) (hsw _)
      have r : R (hideAll s₁.heap (hid C d cs false)) v w := by
        cases b with
        | false => exact q.2
        | true => exact q.2.of_flat (hb rfl)
      refine ex (store_val D (I.keeps q.1.le) hx hk r) fun _ s₂ z => ?_
      refine sAEA z fun z1 cs' z2 _ => ?_; try clear z
      exact ⟨q.1.sm.trans z1, cs', z2, rfl⟩
    (refine Classical.byContradiction fun hnn => ?_; split at (h) <;> (refine hnn ?_; clear hnn))
    · rename_i v ha
      cases (h)
      exact key v _ ha (fun z => by exact nn2 z)
    · rename_i v ha
      (refine Classical.byContradiction fun hnn => ?_; split at (h) <;> (refine hnn ?_; clear hnn))
      · rename_i hf
        cases (h)
        exact key v _ ha (fun _ => hf)
      · exact nn0 h
    · exact nn0 h
noncomputable def assignOwn (i : Nat) (x : Str) (k : NameKind) (hx : C.slots[i]? = some (x, k)) (hk : k ≠ .free) (es : List (XA u n C)) (hl : es.length ≤ 1000) (p2 p1 p : Pos) : X1 u n C where
  st := .Assign [.Name x p1] (.List (exprs es) p2) p
  den σ := match denL es σ with
    | some (vs, false) => some (.next, σ.set i (.own true vs))
    | _ => .none
  snd := by
    intro σ fl σ' h d s cs D I
    (refine Classical.byContradiction fun hnn => ?_; split at (h) <;> (refine hnn ?_; clear hnn))
    · rename_i vs ha
      cases (h)
      have hn := denL_len ha
      refine wpAny_Assign_Name (wpAny_List_spliced (ex (items_ok ha D I) fun us s₁ q => ?_))
      have e := q.2.length
      have I1 := I.keeps q.1.le
      refine ⟨?_, ex (store_own (pf := true) D I1 (Le.push _ _) hx hk (fresh_size _) ⟨0, Heap.get?_push_size _ rfl⟩ q.2) fun _ s₂ z => ?_⟩
      · have : sizeLine = 2 ^ 24 := rfl
        omega
      · refine sAE z fun z1 cs' z2 => ?_; try clear z
        exact ⟨(q.1.sm.trans ⟨_, _, rfl⟩).trans z1, cs', z2, rfl⟩
    · exact nn0 h
noncomputable def ret (a : XE u n C) (p : Pos) : X1 u n C where
  st := .Return (some a.e) p
  den σ := match a.den σ with
    | some (v, _) => some (.ret v, σ)
    | .none => .none
  snd := by
    intro σ fl σ' h d s cs D I
    (refine Classical.byContradiction fun hnn => ?_; split at (h) <;> (refine hnn ?_; clear hnn))
    · rename_i v b ha
      cases (h)
      refine wpAny_Return_some (ex (a.snd σ v b ha d s cs D I) fun w s₁ q => ⟨q.1.sm, cs, I.keeps q.1.le, w, rfl, ?_⟩)
      exact q.2.mono (hid_le (C := C) (cs := cs) (b' := true) _ (fun _ => rfl))
    · exact nn0 h
noncomputable def ite (t : XT u n C) (a b : XS u n C) (p : Pos) : X1 u n C where
  st := .If t.e a.ss b.ss p
  den σ := match t.den σ with
    | some true => a.den σ
    | some false => b.den σ
    | .none => .none
  snd := by
    intro σ fl σ' h d s cs D I
    (refine Classical.byContradiction fun hnn => ?_; split at (h) <;> (refine hnn ?_; clear hnn))
    · rename_i ht
      refine wpAny_If (ex (t.snd σ _ ht d s cs D I) fun z s₁ q => ?_)
      rw [q.2]
      simp only [if_true]
      exact ex (a.snd σ fl σ' h d s₁ cs D (I.keeps q.1.le)) fun _ _ r => ⟨q.1.sm.trans r.1, r.2⟩
    · rename_i ht
      refine wpAny_If (ex (t.snd σ _ ht d s cs D I) fun z s₁ q => ?_)
      rw [q.2]
      exact ex (b.snd σ fl σ' h d s₁ cs D (I.keeps q.1.le)) fun _ _ r => ⟨q.1.sm.trans r.1, r.2⟩
    · exact nn0 h
noncomputable def brk (p : Pos) : X1 u n C where
  st := .Break p
  den σ := some (.brk, σ)
  snd := by
    intro σ fl σ' h d s cs D I
    cases (h)
    exact wpAny_Break ⟨Sm.refl _, cs, I, rfl⟩
end X1
noncomputable def rngV (a b : Int) : List V := (List.range (b - a).toNat).map fun (k : Nat) => V.int (a + (k : Int))
noncomputable def iterV : V → Option (List V)
  | .list xs => if lenOk xs.length then some xs else none
  | .tup xs => if lenOk xs.length then some xs else none
  | .str x => if lenOk x.length && x.cps.all (fun c => decide (c < 128)) then some (x.cps.toList.map fun c => .str ⟨#[c]⟩) else none
  | .rng a b => if decide (a.natAbs < 1048576) && decide (b.natAbs < 1048576) then some (rngV a b) else none
  | _ => none
inductive Src (prog : Program) (w : World) (A : Around) (s : Shared) (H : List Addr) (av : V) (xs : List V) (it : Value) (s' : Shared) : Prop
  | mk (k : Kp s s') (fp : List Addr) (P : Nat → Value → Prop) (St : Nat → Heap → Prop) (e : it = .ref s.heap.objs.size) (W : Walks prog w A s.heap.objs.size fp [s.heap.objs.size] xs.length P St) (st : St 0 s'.heap) (hn : xs.length ≤ 2 ^ 22)
    (hfp : ∀ b ∈ fp, b = s.heap.objs.size ∨ (s.heap.get? b ≠ none ∧ b ∉ H)) (hal : ∀ i h, St i h → ∃ o, h.get? s.heap.objs.size = some o ∧ ∀ v, o.data ≠ .cell v)
    (hl : ∀ ys, av = .list ys → ∀ (i : Nat) (elts : List PySem.Expr) (x1 : Nat) (pos : Pos) (T : Addr) (s' : Shared) (E : Value → Shared → Prop) (Q : Unit → Shared → Prop), St i s'.heap → Q () s' → wpAny (model prog w) A (letOwnedTupleGo (.Tuple elts x1 pos) (.ref s.heap.objs.size) (.ref T)) Q E s')
    (hP : ∀ (i : Nat) (v : Value), i < xs.length → P i v → ∃ y, xs[i]? = some y ∧ R (hideAll s.heap H) y v) : Src prog w A s H av xs it s'
theorem iteC' {α : Type} {c : Bool} {x y : α} {P : Prop} (h : (if c then some x else none) = some y) (k : c = true → y = x → P) : P := by
  cases c with
  | true => exact k rfl (Option.some.inj h).symm
  | false => exact nn0 h
theorem abs_lt {a : Int} {n : Nat} (h : a.natAbs < n) : -(n : Int) < a ∧ a < n := by omega
theorem small_of {a b : Int} (h1 : a.natAbs < 1048576) (h2 : b.natAbs < 1048576) : Builtin.Range.small a b 1 = true := by
  have h1 := abs_lt h1
  have h2 := abs_lt h2
  unfold Builtin.Range.small
  rw [rangeSize_nat]
  simp [Builtin.Range.rangeFitsLong]
  omega
theorem iter_ok {prog : Program} {w : World} {A : Around} {s : Shared} {H : List Addr} {av : V} {xs : List V} {x : Value} (hh : A.handled = none) (hx : iterV av = some xs) (r : R (hideAll s.heap H) av x) :
    wpAny (model prog w) A (pyIter x) (fun it s' => Src prog w A s H av xs it s') NoE s := by
  refine genW0 fun QW hQW => ?_
  cases av with
  | list ys =>
    refine iteC' hx fun q ex => ?_
    subst ex
    have q := of_decide_eq_true q
    refine R.listC r fun vs l eqx hl hr => ?_
    clear r; cases (eqx)
    have hl' := IsList.of_hide hl
    have hne : l ≠ s.heap.objs.size := fun z => by refine sEA hl' fun o e _ => ?_; try clear hl'; rw [z, fresh_size] at e; exact nn0 e
    have en : vs.toArray.size = xs.length := by rw [List.size_toArray, hr.length]
    have W := Walks.list (prog := prog) (w := w) hh s.heap.objs.size l hne vs.toArray
    rw [en] at W
    refine wpAny_pyIter_list hl' (hQW _ _ ⟨Kp.heap _ (Le.push _ _), [_, l], _, _, rfl, W, ⟨⟨_, Heap.get?_push_size _ rfl, rfl, rfl⟩, ?_⟩, by omega, ?_, ?_, ?_, ?_⟩)
    · refine sEA hl' fun o e z => ?_; try clear hl'
      exact ⟨o, Heap.get?_push_of_some _ e, z⟩
    · intro b m
      rcases List.mem_cons.mp m with m | m
      · exact .inl m
      · cases List.mem_singleton.mp m
        refine sEA hl fun o e z => ?_; try clear hl
        refine sA (hide_get e) fun e1 e2 => ?_
        exact .inr ⟨fun z => (by rw [e1] at z; exact nn1 z), e2⟩
    · rintro i h ⟨⟨o, e, _, hd⟩, _⟩
      exact ⟨o, e, fun v z => by rw [hd] at z; cases (z)⟩
    · intro ys _ i elts x1 pos T s' E Q st hq
      exact wpAny_letOwnedTupleGo_listiter st.1 hq
    · intro i v _ e
      exact hr.get' (by simpa using e)
  | tup ys =>
    refine iteC' hx fun q ex => ?_
    subst ex
    have q := of_decide_eq_true q
    refine R.tupC r fun vs l eqx hl hr => ?_
    clear r; cases (eqx)
    have hl' := IsTup.of_hide hl
    have hne : l ≠ s.heap.objs.size := fun z => by refine sEA hl' fun o e _ => ?_; try clear hl'; rw [z, fresh_size] at e; exact nn0 e
    have en : vs.toArray.size = xs.length := by rw [List.size_toArray, hr.length]
    have W := Walks.tuple (prog := prog) (w := w) hh s.heap.objs.size l hne vs.toArray
    rw [en] at W
    refine wpAny_pyIter_tuple hl' (hQW _ _ ⟨Kp.heap _ (Le.push _ _), [_, l], _, _, rfl, W, ⟨⟨_, Heap.get?_push_size _ rfl, rfl, rfl⟩, ?_⟩, by omega, ?_, ?_, ?_, ?_⟩)
    · refine sEA hl' fun o e z => ?_; try clear hl'
      exact ⟨o, Heap.get?_push_of_some _ e, z⟩
    · intro b m
      rcases List.mem_cons.mp m with m | m
      · exact .inl m
      · cases List.mem_singleton.mp m
        refine sEA hl fun o e z => ?_; try clear hl
        refine sA (hide_get e) fun e1 e2 => ?_
        exact .inr ⟨fun z => (by rw [e1] at z; exact nn1 z), e2⟩
    · rintro i h ⟨⟨o, e, _, hd⟩, _⟩
      exact ⟨o, e, fun v z => by rw [hd] at z; cases (z)⟩
    · intro ys e; cases (e)
    · intro i v _ e
      exact hr.get' (by simpa using e)
  | str y =>
    refine iteC' hx fun q ex => ?_
    subst ex
    rw [Bool.and_eq_true] at q
    have q1 := of_decide_eq_true q.1
    refine R.strC r fun t eqx => ?_
    clear r; cases (eqx)
    have en : (y.cps.toList.map fun c => V.str ⟨#[c]⟩).length = y.cps.size := by simp
    have W := Walks.strAscii (prog := prog) (w := w) hh s.heap.objs.size y t
    rw [← en] at W
    refine wpAny_pyIter_ascii q.2 (hQW _ _ ⟨Kp.heap _ (Le.push _ _), [_], _, _, rfl, W, ⟨_, Heap.get?_push_size _ rfl, rfl, rfl⟩, ?_, ?_, ?_, ?_, ?_⟩)
    · rw [en]
      have : y.length = y.cps.size := rfl
      omega
    · intro b m
      exact .inl (List.mem_singleton.mp m)
    · rintro i h ⟨o, e, _, hd⟩
      exact ⟨o, e, fun v z => by rw [hd] at z; cases (z)⟩
    · intro ys e; cases (e)
    · intro i v _ e
      refine sEEA e fun c tk e1 z21 => ?_; try clear e; (first | subst z21 | cases (z21))
      exact ⟨.str ⟨#[c]⟩, by simp [e1], .str _ _⟩
  | rng a b =>
    refine iteC' hx fun q ex => ?_
    subst ex
    rw [Bool.and_eq_true, decide_eq_true_eq, decide_eq_true_eq] at q
    refine R.rngC r fun rX t u v eqx e => ?_
    clear r; cases (eqx); revert rX e; intro r e
    have e' := of_hideAll H e
    have en : (rngV a b).length = (b - a).toNat := by simp [rngV]
    have hsz := rangeSize_nat a b
    have W := Walks.range (prog := prog) (w := w) hh s.heap.objs.size a 1 (b - a).toNat
    rw [← en] at W
    refine wpAny_pyIter_range (s := s) e' ?_ (hQW _ _ ⟨Kp.heap _ (Le.push _ _), [_], _, _, rfl, W, ?_, ?_, ?_, ?_, ?_, ?_⟩)
    · exact small_of q.1 q.2
    · show IsRangeIter _ _ _ _ _
      unfold IsRangeIter
      rw [Heap.get?_push_size _ rfl, hsz, en]
      simp [rawInt]
    · rw [en]; omega
    · intro b m
      exact .inl (List.mem_singleton.mp m)
    · intro i h e
      exact ⟨_, e, fun v z => by cases (z)⟩
    · intro ys e; cases (e)
    · intro i v hi hv
      refine sE hv fun tk z22 => ?_; try clear hv; (first | subst z22 | cases (z22))
      rw [en] at hi
      refine ⟨.int (a + (i : Int)), ?_, ?_⟩
      · unfold rngV
        rw [List.getElem?_map, List.getElem?_range hi]; rfl
      · rw [Int.mul_one]; exact .int _ _
  | _ => exact nn0 hx
section
variable {u : U} {n : Nat} {C : Nm}
theorem Inv.move {d d' : Dy} {σ : List SV} {h h' : Heap} {cs : List CS} (I : Inv C d σ h cs) (e : d'.env = d.env) (es : d'.slf = d.slf)
    (k : ∀ b o, b ∈ wr C d cs → h.get? b = some o → h'.get? b = some o) (kc : ∀ b o, (∃ v, o.data = .cell v) → h.get? b = some o → h'.get? b = some o)
    (vis : Le (hideAll h (d.W ++ wr C d cs)) (hideAll h' (d'.W ++ wr C d cs)))
    (keep : Le d'.he h') (fresh : ∀ a ∈ wr C d cs, d'.he.get? a = none) : Inv C d' σ h' cs where
  ns := by
    refine sEA I.ns fun m hn hs => ?_
    refine ⟨m, ?_, fun i p c a b => ?_⟩
    · rw [e]
      refine sEEEA hn fun o es ep e1 r => ?_; try clear hn
      exact ⟨o, es, ep, k _ _ List.mem_cons_self e1, r⟩
    · have z := hs i p c a b
      rw [e]
      unfold Stored at z ⊢
      split
      · rename_i hp; rw [hp] at z; exact z
      · rename_i hp
        have z : ∃ ca, d.env.cells.lookup p.1 = some ca ∧ h.IsCell ca c.value := by
          revert z; split
          · rename_i q; exact fun _ => absurd q hp
          · exact id
        refine sEAEA z fun ca h1 o h2 h3 => ?_; try clear z
        exact ⟨ca, h1, o, kc _ _ ⟨_, h3⟩ h2, h3⟩
  lenS := I.lenS
  lenC := I.lenC
  sr := by
    intro i sv c a b
    have ew : wr C d' cs = wr C d cs := by unfold wr; rw [e]
    rw [ew]
    have r := I.sr i sv c a b
    have cm : c ∈ cs := List.mem_of_getElem? b
    have mm : ∀ x ∈ c.adr, x ∈ wr C d cs := fun x m => List.mem_cons_of_mem _ (List.mem_append_right _ (List.mem_flatMap.mpr ⟨_, cm, m⟩))
    cases r with
    | unset => exact .unset
    | val r => exact .val (r.mono vis)
    | own p r =>
      refine sEA p fun q e1 z => ?_; try clear p
      exact .own ⟨q, k _ _ (mm _ (List.mem_singleton.mpr rfl)) e1, z⟩ (r.mono vis)
    | self e1 e2 r => exact .self (k _ _ (mm _ List.mem_cons_self) e1) (k _ _ (mm _ (List.mem_cons_of_mem _ (List.mem_singleton.mpr rfl))) e2) (r.mono vis)
  keep := keep
  fresh := by
    have ew : wr C d' cs = wr C d cs := by unfold wr; rw [e]
    rw [ew]; exact fresh
  LC := by rw [e]; exact I.LC
  CA := by rw [e]; exact I.CA
  own := I.own
  slf := by rw [es]; exact I.slf
theorem Inv.rebase {d : Dy} {σ : List SV} {h : Heap} {cs : List CS} (I : Inv C d σ h cs) : Inv C { d with he := hideAll h (wr C d cs) } σ h cs :=
  I.move rfl rfl (fun _ _ _ e => e) (fun _ _ _ e => e) (Le.refl _) (Le.hide _ _) fun _ m => hideAll_none _ m
theorem Inv.unbase {d : Dy} {σ' : List SV} {h h' : Heap} {cs cs' : List CS} (K : Le d.he h) (F : ∀ a ∈ wr C d cs, d.he.get? a = none) (I : Inv C { d with he := hideAll h (wr C d cs) } σ' h' cs') : Inv C d σ' h' cs' :=
  have up : Le d.he (hideAll h (wr C d cs)) := fun b o e => hideAll_get _ (K b o e) fun m => by rw [F b m] at e; exact nn0 e
  I.move rfl rfl (fun _ _ _ e => e) (fun _ _ _ e => e) (Le.refl _) (up.trans I.keep) fun a m => up.none (I.fresh a m)
theorem Inv.vis {d : Dy} {σ' : List SV} {h h' : Heap} {cs cs' : List CS} {X : List Addr} (I : Inv C { d with he := hideAll h (wr C d cs) } σ' h' cs') : Le (hideAll h (X ++ wr C d cs)) (hideAll h' (X ++ wr C d cs')) := Le.hides fun b o e nn => by
  have e1 : (hideAll h (wr C d cs)).get? b = some o := hideAll_get _ e fun m => nn (List.mem_append_right _ m)
  refine ⟨I.keep b o e1, fun m => ?_⟩
  rcases List.mem_append.mp m with m | m
  · exact nn (List.mem_append_left _ m)
  · have := I.fresh b m
    rw [e1] at this; exact nn1 this
structure XG (u : U) (n : Nat) (C : Nm) where
  t : PySem.Expr
  den : V → List SV → Option (List SV)
  snd : ∀ v σ σ', den v σ = some σ' → ∀ (d : Dy) (s : Shared) (cs : List CS) (x : Value), DOk u n C d → Inv C d σ s.heap cs → R (hideAll s.heap (hid C d cs false)) v x →
    wpAny (model u.prog u.w) d.A (PySem.assign t d.env x) (fun _ s' => Sm s s' ∧ ∃ cs', Inv C d σ' s'.heap cs' ∧ Le (hideAll s.heap (hid C d cs false)) (hideAll s'.heap (hid C d cs' false)) ∧ ∀ a ∈ wr C d cs', a ∈ wr C d cs) NoE s
namespace XG
noncomputable def name (i : Nat) (x : Str) (k : NameKind) (hx : C.slots[i]? = some (x, k)) (hk : k ≠ .free) (p : Pos) : XG u n C where
  t := .Name x p
  den v σ := some (σ.set i (.val v))
  snd := by
    intro v σ σ' h d s cs w D I r
    cases (h)
    exact wpAny_assign_Name (store_val D I hx hk r)
end XG
noncomputable def loopD (g : V → List SV → Option (List SV)) (body : List SV → Option (Fl × List SV)) : List V → List SV → Option (Fl × List SV)
  | [], σ => some (.next, σ)
  | x :: r, σ => match g x σ with
    | none => none
    | some σ₀ => match body σ₀ with
      | some (.next, σ') => loopD g body r σ'
      | some (.brk, σ') => some (.next, σ')
      | some (.ret v, σ') => some (.ret v, σ')
      | none => none
theorem Inv.turned {d : Dy} {σ : List SV} {h h' : Heap} {cs : List CS} {a : Addr} (I : Inv C d σ h cs) (hW : a ∈ d.W) (hw : a ∉ wr C d cs) (hh : d.he.get? a = none) (hc : ∀ o, h.get? a = some o → ∀ v, o.data ≠ .cell v) (k : ∀ b o, b ≠ a → h.get? b = some o → h'.get? b = some o) : Inv C d σ h' cs :=
  I.move rfl rfl (fun b o m e => k b o (fun q => hw (q ▸ m)) e) (fun b o ⟨v, hv⟩ e => k b o (fun q => hc o (q ▸ e) v hv) e)
    (Le.hides fun b o e nn => ⟨k b o (fun q => nn (q ▸ List.mem_append_left _ hW)) e, nn⟩)
    (fun b o e => k b o (fun q => by rw [q, hh] at e; exact nn0 e) (I.keep b o e)) I.fresh
theorem loopD_fl {g : V → List SV → Option (List SV)} {body : List SV → Option (Fl × List SV)} : ∀ {xs : List V} {σ : List SV} {fl : Fl} {σ' : List SV}, loopD g body xs σ = some (fl, σ') → fl ≠ .brk
  | [], _, _, _, h => by cases (h); exact fun z => by cases (z)
  | x :: r, σ, fl, σ', h => by
    unfold loopD at h
    (refine Classical.byContradiction fun hnn => ?_; split at (h) <;> (refine hnn ?_; clear hnn))
    · exact nn0 h
    · (refine Classical.byContradiction fun hnn => ?_; split at (h) <;> (refine hnn ?_; clear hnn))
      · exact loopD_fl h
      · cases (h); exact fun z => by cases (z)
      · cases (h); exact fun z => by cases (z)
      · exact nn0 h
inductive ForI {u : U} {n : Nat} {C : Nm} (g : XG u n C) (body : XS u n C) (d : Dy) (s₁ : Shared) (cs₁ : List CS) (σ' : List SV) (fl : Fl) (xs : List V) (a : Addr) (fp : List Addr) (St : Nat → Heap → Prop) (k : Nat) (s : Shared) : Prop
  | mk (i : Nat) (σ₀ : List SV) (cs : List CS) (ek : k = xs.length + 1 - i) (hi : i ≤ xs.length) (hl : loopD g.den body.den (xs.drop i) σ₀ = some (fl, σ')) (I : Inv C { d with W := a :: d.W } σ₀ s.heap cs) (st : St i s.heap) (ha : a ∉ wr C d cs)
    (hf : ∀ b ∈ fp, b ≠ a → s.heap.get? b ≠ none ∧ b ∉ wr C d cs) (vis : Le (hideAll s₁.heap (d.W ++ wr C d cs₁)) (hideAll s.heap ((a :: d.W) ++ wr C d cs))) (sm : Sm s₁ s) : ForI g body d s₁ cs₁ σ' fl xs a fp St k s
theorem genR {M : Model} {A : Around} {c : Code} {P : Result → Shared → Prop} {s : Shared} (h : ∀ Q : Result → Shared → Prop, (∀ r s', P r s' → Q r s') → codeAny M A c Q s) : codeAny M A c P s := h P fun _ _ q => q
theorem genW {α : Type} {M : Model} {A : Around} {t : Sem α} {P : α → Shared → Prop} {E : Value → Shared → Prop} {s : Shared} (h : ∀ Q : α → Shared → Prop, (∀ a s', P a s' → Q a s') → wpAny M A t Q E s) : wpAny M A t P E s := h P fun _ _ q => q
theorem for_core {g : XG u n C} {body : XS u n C} {d : Dy} {s₁ s₂ : Shared} {cs₁ : List CS} {σ σ' : List SV} {fl : Fl} {xs : List V} {a : Addr} {fp : List Addr} {P : Nat → Value → Prop} {St : Nat → Heap → Prop} {E : Value → Shared → Prop}
    (D : DOk u n C d) (I1 : Inv C d σ s₁.heap cs₁) (K : Kp s₁ s₂) (ha : s₁.heap.get? a = none) (W : Walks u.prog u.w d.A a fp [a] xs.length P St) (St0 : St 0 s₂.heap)
    (hfp : ∀ b ∈ fp, b = a ∨ (s₁.heap.get? b ≠ none ∧ b ∉ hid C d cs₁ false)) (hal : ∀ i h, St i h → ∃ o, h.get? a = some o ∧ ∀ v, o.data ≠ .cell v)
    (hP : ∀ (i : Nat) (v : Value), i < xs.length → P i v → ∃ y, xs[i]? = some y ∧ R (hideAll s₁.heap (hid C d cs₁ false)) y v)
    (hgo : ∀ (i : Nat) (v : Value) (s' : Shared) (E : Value → Shared → Prop) (Q : Unit → Shared → Prop), P i v → St (i + 1) s'.heap → Q () s' → wpAny (model u.prog u.w) d.A (letOwnedTupleGo g.t (.ref a) v) Q E s')
    (hloop : loopD g.den body.den xs σ = some (fl, σ')) :
    codeAny (model u.prog u.w) d.A (.forLoop g.t (.ref a) body.ss [] d.env) (fun r s' => match r with
      | .ok f => Sm s₁ s' ∧ ∃ cs', Inv C d σ' s'.heap cs' ∧ FlR C d s'.heap fl f
      | .error e => E e s') s₂ := by
  have hfl := loopD_fl hloop
  have hda : d.he.get? a = none := I1.keep.none ha
  refine genR fun QQ hQ => ?_
  refine codeAny_forLoop_any (ForI g body d s₁ cs₁ σ' fl xs a fp St) ?_ (xs.length + 1) ?_
  · rintro k s ⟨i, σ₀, cs, rfl, hi, hl, I, St1, haw, hfb, vis, sm⟩
    by_cases hlt : i < xs.length
    · refine W.item i s _ _ hlt St1 fun v h' tk hPv St2 kp => ?_
      refine sEA (hP i v hlt hPv) fun y hy hr => ?_
      have kp' : ∀ b o, b ≠ a → s.heap.get? b = some o → h'.get? b = some o := fun b o ne e => kp b o (fun m => ne (List.mem_singleton.mp m)) e
      refine hgo i v _ _ _ hPv St2 ?_
      refine sEA (hal _ _ St1) fun oa hoa hoc => ?_
      have I2 : Inv C { d with W := a :: d.W } σ₀ h' cs := I.turned List.mem_cons_self haw hda (fun o e v => by rw [hoa] at e; cases (e); exact hoc v) kp'
      refine sEA (hal _ _ St2) fun ob hob _ => ?_
      have hea : (hideAll h' (wr C d cs)).get? a = some ob := hideAll_get _ hob haw
      have D3 : DOk u n C { d with W := a :: d.W, he := hideAll h' (wr C d cs) } := ⟨D.env, D.base, (fun b o e => hideAll_get _ (I2.keep _ _ (D.le _ _ e)) (fun m => by
          have := I2.fresh b m
          rw [show d.he.get? b = some o from D.le _ _ e] at this; exact nn1 this)), D.room, fun b m => by
        rcases List.mem_cons.mp m with m | m
        · rw [m, hea]; exact fun z => by exact nn1 z
        · cases e : d.he.get? b with
          | none => exact absurd e (D.alive b m)
          | some o =>
            rw [hideAll_get _ (I2.keep _ _ e) (fun mm => by have := I2.fresh b mm; rw [show d.he.get? b = some o from e] at this; exact nn1 this)]
            exact (fun z => by exact nn1 z), D.above⟩
      have I3 : Inv C { d with W := a :: d.W, he := hideAll h' (wr C d cs) } σ₀ h' cs := I2.rebase
      have hr3 : R (hideAll h' ((a :: d.W) ++ wr C d cs)) y v := (hr.mono vis).mono (Le.hides fun b o e nn => ⟨kp' b o (fun q => nn (q ▸ List.mem_append_left _ List.mem_cons_self)) e, nn⟩)
      have hd : xs.drop i = y :: xs.drop (i + 1) := by
        have : xs[i] = y := by
          rw [List.getElem?_eq_getElem hlt] at hy; exact Option.some.inj hy
        rw [← this]; exact List.drop_eq_getElem_cons hlt
      rw [hd] at hl
      unfold loopD at hl
      (refine Classical.byContradiction fun hnn => ?_; split at (hl) <;> (refine hnn ?_; clear hnn))
      · exact nn0 hl
      · rename_i σ₁ hσ₁
        refine ex (g.snd y σ₀ σ₁ hσ₁ { d with W := a :: d.W, he := hideAll h' (wr C d cs) } _ cs v D3 I3 hr3) fun _ s4 q4 => ?_
        refine sAEAA q4 fun sm4 cs4 I4 vis4 sub4 => ?_; try clear q4
        have finish : ∀ (σ₂ : List SV) (s5 : Shared) (cs5 : List CS), Sm s4 s5 → Inv C { d with W := a :: d.W, he := hideAll h' (wr C d cs) } σ₂ s5.heap cs5 →
            Sm s₁ s5 ∧ Inv C { d with W := a :: d.W } σ₂ s5.heap cs5 ∧ St (i + 1) s5.heap ∧ a ∉ wr C d cs5 ∧ (∀ b ∈ fp, b ≠ a → s5.heap.get? b ≠ none ∧ b ∉ wr C d cs5) ∧ Le (hideAll s₁.heap (d.W ++ wr C d cs₁)) (hideAll s5.heap ((a :: d.W) ++ wr C d cs5)) := by
          intro σ₂ s5 cs5 sm5 I5
          have hfb' : ∀ b ∈ fp, ∀ o, h'.get? b = some o → (hideAll h' (wr C d cs)).get? b = some o := fun b m o e => by
            by_cases q : b = a
            · rw [q] at e ⊢; exact hideAll_get _ e haw
            · exact hideAll_get _ e (hfb b m q).2
          refine ⟨?_, I5.unbase (d := { d with W := a :: d.W }) I2.keep I2.fresh, W.frame _ _ _ St2 fun b m o e => I5.keep b o (hfb' b m o e), fun m => ?_, fun b m ne => ?_, ?_⟩
          · refine sm.trans (Sm.trans ⟨h', tk, rfl⟩ (sm4.trans sm5))
          · have := I5.fresh a m
            rw [hea] at this; exact nn1 this
          · refine sA (hfb b m ne) fun q1 q2 => ?_
            cases e : s.heap.get? b with
            | none => exact absurd e q1
            | some o =>
              have e1 := hfb' b m o (kp' b o ne e)
              refine ⟨fun z => (by rw [I5.keep b o e1] at z; exact nn1 z), fun mm => ?_⟩
              have := I5.fresh b mm
              rw [e1] at this; exact nn1 this
          · refine vis.trans (Le.trans (Le.hides fun b o e nn => ⟨kp' b o (fun q => nn (q ▸ List.mem_append_left _ List.mem_cons_self)) e, nn⟩) (I5.vis (d := { d with W := a :: d.W }) (X := a :: d.W)))
        (refine Classical.byContradiction fun hnn => ?_; split at (hl) <;> (refine hnn ?_; clear hnn))
        · rename_i σ₂ hb
          refine ex (body.snd σ₁ _ _ hb { d with W := a :: d.W, he := hideAll h' (wr C d cs) } s4 cs4 D3 I4) fun f s5 q5 => ?_
          refine sAEA q5 fun sm5 cs5 I5 z23 => ?_; try clear q5; (first | subst z23 | cases (z23))
          refine sAAAAA (finish σ₂ s5 cs5 sm5 I5) fun f1 f2 f3 f4 f5 f6 => ?_
          exact ⟨xs.length + 1 - (i + 1), by omega, i + 1, σ₂, cs5, rfl, hlt, hl, f2, f3, f4, f5, f6, f1⟩
        · rename_i σ₂ hb
          cases (hl)
          refine ex (body.snd σ₁ _ _ hb { d with W := a :: d.W, he := hideAll h' (wr C d cs) } s4 cs4 D3 I4) fun f s5 q5 => ?_
          refine sAEA q5 fun sm5 cs5 I5 z24 => ?_; try clear q5; (first | subst z24 | cases (z24))
          refine sAAAAA (finish _ s5 cs5 sm5 I5) fun f1 f2 f3 f4 f5 f6 => ?_
          refine hQ (.ok _) _ ⟨f1, cs5, ?_, rfl⟩
          exact f2.move (d' := d) rfl rfl (fun _ _ _ e => e) (fun _ _ _ e => e) (Le.hides_sub fun b m => by
            rcases List.mem_append.mp m with m | m
            · exact List.mem_append_left _ (List.mem_cons_of_mem _ m)
            · exact List.mem_append_right _ m) f2.keep f2.fresh
        · rename_i rv σ₂ hb
          cases (hl)
          refine ex (body.snd σ₁ _ _ hb { d with W := a :: d.W, he := hideAll h' (wr C d cs) } s4 cs4 D3 I4) fun f s5 q5 => ?_
          refine sAEAEA q5 fun sm5 cs5 I5 x z25 hrx => ?_; try clear q5; (first | subst z25 | cases (z25))
          refine sAAAAA (finish _ s5 cs5 sm5 I5) fun f1 f2 f3 f4 f5 f6 => ?_
          refine hQ (.ok _) _ ⟨f1, cs5, ?_, x, rfl, hrx.mono (Le.hides_sub fun b m => ?_)⟩
          · exact f2.move (d' := d) rfl rfl (fun _ _ _ e => e) (fun _ _ _ e => e) (Le.hides_sub fun b m => by
              rcases List.mem_append.mp m with m | m
              · exact List.mem_append_left _ (List.mem_cons_of_mem _ m)
              · exact List.mem_append_right _ m) f2.keep f2.fresh
          · rcases List.mem_append.mp (show b ∈ d.W ++ frm C d from m) with m | m
            · exact List.mem_append_left _ (List.mem_cons_of_mem _ m)
            · exact List.mem_append_right _ m
        · exact nn0 hl
    · have hi' : i = xs.length := by omega
      subst hi'
      refine W.done s _ _ St1 fun h' tk kp => ?_
      have hd : xs.drop xs.length = [] := List.drop_length
      rw [hd] at hl
      refine sEA (hal _ _ St1) fun oa hoa hoc => ?_
      have I2 : Inv C { d with W := a :: d.W } σ₀ h' cs := I.turned List.mem_cons_self haw hda (fun o e v => by rw [hoa] at e; cases (e); exact hoc v) (fun b o ne e => kp b o (fun m => ne (List.mem_singleton.mp m)) e)
      cases (hl)
      refine wpAny_execs_nil (hQ (.ok _) _ ⟨sm.trans ⟨h', tk, rfl⟩, cs, ?_, rfl⟩)
      exact I2.move (d' := d) rfl rfl (fun _ _ _ e => e) (fun _ _ _ e => e) (Le.hides_sub fun b m => by
        rcases List.mem_append.mp m with m | m
        · exact List.mem_append_left _ (List.mem_cons_of_mem _ m)
        · exact List.mem_append_right _ m) I2.keep I2.fresh
  · have haw : a ∉ wr C d cs₁ := fun m => I1.alive D a (List.mem_append_right _ m) ha
    refine ⟨0, σ, cs₁, rfl, Nat.zero_le _, hloop, ?_, St0, haw, fun b m ne => ?_, ?_, K.sm⟩
    · refine I1.move (d' := { d with W := a :: d.W }) rfl rfl (fun b o _ e => K.le b o e) (fun b o _ e => K.le b o e) (Le.hides fun b o e nn => ⟨K.le b o e, fun m => ?_⟩) (I1.keep.trans K.le) I1.fresh
      rcases List.mem_append.mp m with m | m
      · rcases List.mem_cons.mp m with m | m
        · rw [m, ha] at e; exact nn0 e
        · exact nn (List.mem_append_left _ m)
      · exact nn (List.mem_append_right _ m)
    · rcases hfp b m with q | ⟨q1, q2⟩
      · exact absurd q ne
      · refine ⟨fun z => q1 (K.le.none z), fun mm => q2 (List.mem_append_right _ mm)⟩
    · refine Le.hides fun b o e nn => ⟨K.le b o e, fun m => ?_⟩
      rcases List.mem_append.mp m with m | m
      · rcases List.mem_cons.mp m with m | m
        · rw [m, ha] at e; exact nn0 e
        · exact nn (List.mem_append_left _ m)
      · exact nn (List.mem_append_right _ m)
end
namespace X1
variable {u : U} {n : Nat} {C : Nm}
noncomputable def for_ (g : XG u n C) (hg : ∀ it v, letOwnedTupleGo g.t it v = pure ()) (a : XE u n C) (body : XS u n C) (p : Pos) (hs : ∀ env x, foldedSetIterable a.e env x = pure x) : X1 u n C where
  st := .For g.t a.e body.ss [] p
  den σ := match a.den σ with
    | some (v, false) => match iterV v with
      | some xs => loopD g.den body.den xs σ
      | .none => .none
    | _ => .none
  snd := by
    intro σ fl σ' h d s cs D I
    (refine Classical.byContradiction fun hnn => ?_; split at (h) <;> (refine hnn ?_; clear hnn))
    · rename_i v ha
      (refine Classical.byContradiction fun hnn => ?_; split at (h) <;> (refine hnn ?_; clear hnn))
      · rename_i xs hx
        refine wpAny_For (ex (a.snd σ v false ha d s cs D I) fun x s₁ q => ?_) (hs _)
        have I1 := I.keeps q.1.le
        refine ex (iter_ok D.room.handled hx q.2) fun it s₂ z => ?_
        obtain ⟨k, fp, P, St, rfl, W, St0, hn, hfp, hal, _, hP⟩ := z
        refine codeAny_mono (for_core (E := fun _ _ => False) D I1 k (fresh_size _) W St0 hfp hal hP (fun i v s' E Q _ _ hq => wpAny_of_eq (hg _ _) hq) h) fun r s' z => ?_
        cases r with
        | ok f => exact ⟨q.1.sm.trans z.1, z.2⟩
        | error e => exact z.elim
      · exact nn0 h
    · exact nn0 h
noncomputable def forT (g : XG u n C) (elts : List PySem.Expr) (x1 : Nat) (pos : Pos) (hg : g.t = .Tuple elts x1 pos) (a : XE u n C) (body : XS u n C) (p : Pos) (hs : ∀ env x, foldedSetIterable a.e env x = pure x) : X1 u n C where
  st := .For g.t a.e body.ss [] p
  den σ := match a.den σ with
    | some (.list xs, false) => if lenOk xs.length && xs.all (fun x => match x with | .tup _ => true | _ => false) then loopD g.den body.den xs σ else .none
    | _ => .none
  snd := by
    intro σ fl σ' h d s cs D I
    (refine Classical.byContradiction fun hnn => ?_; split at (h) <;> (refine hnn ?_; clear hnn))
    · rename_i xs ha
      (refine Classical.byContradiction fun hnn => ?_; split at (h) <;> (refine hnn ?_; clear hnn))
      · rename_i hc
        rw [Bool.and_eq_true] at hc
        have hx : iterV (.list xs) = some xs := if_pos hc.1
        refine wpAny_For (ex (a.snd σ _ false ha d s cs D I) fun x s₁ q => ?_) (hs _)
        have I1 := I.keeps q.1.le
        refine ex (iter_ok D.room.handled hx q.2) fun it s₂ z => ?_
        obtain ⟨k, fp, P, St, rfl, W, St0, hn, hfp, hal, hl, hP⟩ := z
        refine codeAny_mono (for_core (P := fun i v => i < xs.length ∧ P i v) (E := fun _ _ => False) D I1 k (fresh_size _) ?_ St0 hfp hal (fun i v hi z => hP i v hi z.2) (fun i v s' E Q z st hq => ?_) h) fun r s' z => ?_
        · exact ⟨W.sub, W.frame, fun i s Q E hi st hQ => W.item i s Q E hi st fun v h' tk p a b => hQ v h' tk ⟨hi, p⟩ a b, W.done, W.self⟩
        · refine sEA (hP i v z.1 z.2) fun y hy hr => ?_
          have hm := List.all_eq_true.mp hc.2 y (List.mem_of_getElem? hy)
          rw [hg]
          cases hr with
          | @tup ys vs T _ _ => exact hl _ rfl _ _ _ _ T _ _ _ st hq
          | int => exact nn2 hm
          | bool => exact nn2 hm
          | str => exact nn2 hm
          | none => exact nn2 hm
          | list => exact nn2 hm
          | rng => exact nn2 hm
          | raw => exact nn2 hm
          | inst => exact nn2 hm
          | mtch => exact nn2 hm
        · cases r with
          | ok f => exact ⟨q.1.sm.trans z.1, z.2⟩
          | error e => exact z.elim
      · exact nn0 h
    · exact nn0 h
end X1
section
variable {u : U} {n : Nat} {C : Nm}
noncomputable def whileD (t : List SV → Option Bool) (body : List SV → Option (Fl × List SV)) : Nat → List SV → Option (Fl × List SV)
  | 0, _ => none
  | f + 1, σ => match t σ with
    | some true => match body σ with
      | some (.next, σ') => whileD t body f σ'
      | some (.brk, σ') => some (.next, σ')
      | some (.ret v, σ') => some (.ret v, σ')
      | none => none
    | some false => some (.next, σ)
    | none => none
theorem Inv.ownSet {d : Dy} {σ : List SV} {h h' : Heap} {cs : List CS} {i : Nat} {a : Addr} {pf : Bool} {xs : List V} {us : List Value} (D : DOk u n C d) (I : Inv C d σ h cs) (hc : cs[i]? = some (.own a)) (k : Heap.SameBut a h h')
    (p : OwnL pf h' a us.toArray) (r : Rs (hideAll h (hid C d cs false)) xs us) : Inv C d (σ.set i (.own pf xs)) h' cs := by
  have ha : a ∈ adrs cs := List.mem_flatMap.mpr ⟨_, List.mem_of_getElem? hc, List.mem_singleton.mpr rfl⟩
  have hw : a ∈ wr C d cs := List.mem_cons_of_mem _ (List.mem_append_right _ ha)
  have up : Le (hideAll h (d.W ++ wr C d cs)) (hideAll h' (d.W ++ wr C d cs)) := Le.hides fun b o e nn => ⟨k.extBut b o (fun q => nn (q ▸ List.mem_append_right _ hw)) e, nn⟩
  have hf : a ∉ frm C d := fun m => by
    rcases List.mem_cons.mp m with m | m
    · exact I.LC (m ▸ List.mem_append_right _ ha)
    · exact I.CA _ m ha
  refine ⟨?_, by rw [List.length_set]; exact I.lenS, I.lenC, ?_, fun b o e => k.extBut b o (fun q => by rw [q, I.fresh a hw] at e; exact nn0 e) (I.keep b o e), I.fresh, I.LC, I.CA, I.own, I.slf⟩
  · refine sEA I.ns fun m hn hs => ?_
    refine ⟨m, hn.sameBut k (fun q => hf (q ▸ List.mem_cons_self)), fun j q c e1 e2 => ?_⟩
    have z := hs j q c e1 e2
    unfold Stored at z ⊢
    split
    · rename_i hp; rw [hp] at z; exact z
    · rename_i hp
      have z : ∃ ca, d.env.cells.lookup q.1 = some ca ∧ h.IsCell ca c.value := by
        revert z; split
        · rename_i q; exact fun _ => absurd q hp
        · exact id
      refine sEA z fun ca h1 h2 => ?_; try clear z
      refine ⟨ca, h1, h2.sameBut k fun q => ?_⟩
      refine sEA h2 fun o ho hd => ?_; try clear h2
      have r0 := I.sr i
      obtain ⟨sv, hsv⟩ := get_of_len (I.lenS.trans I.lenC.symm) (show i < cs.length from by
        rcases Nat.lt_or_ge i cs.length with z | z
        · exact z
        · rw [List.getElem?_eq_none z] at hc; exact nn0 hc)
      have r1 := r0 sv _ hsv hc
      refine SR.ownD r1 fun _ _ _ eqx p _ => ?_
      clear r1; cases (eqx)
      refine sEAAEA p fun o' e' _ n' d' _ => ?_; try clear p
      rw [q, e'] at ho; cases (ho); rw [d'] at hd; cases (hd)
  · intro j sv c e1 e2
    by_cases q : i = j
    · subst q
      rw [hc] at e2; (refine inj1 e2 ?_; clear e2)
      rcases set_get e1 with ⟨_, rfl⟩ | ⟨ne, _⟩
      · exact .own p (r.mono up)
      · exact absurd rfl ne
    · rcases set_get e1 with ⟨eq, _⟩ | ⟨_, e1⟩
      · exact absurd eq q
      · have r1 := I.sr j sv c e1 e2
        have cm : c ∈ cs := List.mem_of_getElem? e2
        have off : ∀ x ∈ c.adr, x ≠ a := fun x m e => I.own j i c _ (Ne.symm q) e2 hc x m (List.mem_singleton.mpr e)
        cases r1 with
        | unset => exact .unset
        | val r => exact .val (r.mono up)
        | own p r =>
          refine sEA p fun o e z => ?_; try clear p
          exact .own ⟨o, k.extBut _ _ (off _ (List.mem_singleton.mpr rfl)) e, z⟩ (r.mono up)
        | self g1 g2 r => exact .self (k.extBut _ _ (off _ List.mem_cons_self) g1) (k.extBut _ _ (off _ (List.mem_cons_of_mem _ (List.mem_singleton.mpr rfl))) g2) (r.mono up)
theorem Inv.ownAt {d : Dy} {σ : List SV} {h : Heap} {cs : List CS} (I : Inv C d σ h cs) {i : Nat} {pf : Bool} {xs : List V} (hi : σ[i]? = some (.own pf xs)) : ∃ a us, cs[i]? = some (.own a) ∧ OwnL pf h a us.toArray ∧ Rs (hideAll h (hid C d cs false)) xs us := by
  have hlt : i < σ.length := by
    rcases Nat.lt_or_ge i σ.length with z | z
    · exact z
    · rw [List.getElem?_eq_none z] at hi; exact nn0 hi
  refine sE (get_of_len I.lenC (show i < C.slots.length from I.lenS ▸ hlt)) fun c hc => ?_
  have r := I.sr i _ c hi hc
  refine SR.ownC r fun _ _ eqx p rX => ?_
  clear r; cases (eqx); revert rX; intro r
  exact ⟨_, _, hc, p, r⟩
theorem ownName {d : Dy} {σ : List SV} {s : Shared} {cs : List CS} (D : DOk u n C d) (I : Inv C d σ s.heap cs) {i : Nat} {x : Str} {k : NameKind} {a : Addr} {p : Pos} (hx : C.slots[i]? = some (x, k)) (hc : cs[i]? = some (.own a)) {Q : Value → Shared → Prop} {E : Value → Shared → Prop} (h : Q (.ref a) s) :
    wpAny (model u.prog u.w) d.A (eval (.Name x p) d.env) Q E s := by
  have hm : (x, k) ∈ C.slots := List.mem_of_getElem? hx
  refine sEA I.ns fun m hns hst => ?_
  have hs := hst i (x, k) _ hx hc
  have hk := D.env.kinds _ hm
  have hnc := D.env.noClass _ hm
  refine wpAny_Name ?_ hnc.2
  rcases D.env.three _ hm with q | q | q
  · cases (q)
    exact wpAny_loadName_local (m := m) (v := .ref a) D.env.kind (hk.resolve_right fun z => by cases z.1) hns hs h
  · cases (q)
    refine sEA hs fun ca h1 h2 => ?_; try clear hs
    exact wpAny_loadName_cell D.env.kind (hk.resolve_right fun z => by cases z.1) h1 h2 h
  · cases (q)
    refine sEA hs fun ca h1 h2 => ?_; try clear hs
    rcases hk with hk | ⟨_, hk⟩
    · exact wpAny_loadName_free D.env.kind hk h1 h2 h hnc.1
    · exact wpAny_loadName_cell D.env.kind hk h1 h2 h
theorem meth_gen {M : Model} {A : Around} {E : Value → Shared → Prop} {s : Shared} {env : Env} {o : PySem.Expr} {name : Str} {apos p : Pos} {es : List (XA u n C)} {Q : Value → Shared → Prop}
    (hb : attributeBase o name env (eval o env) = eval o env) (hl : es.length < 29) (hline : (apos.endLine == p.line) = true)
    (h : wpAny M A (eval o env) (fun ov s₁ => ∀ pl, wpAny M A (getMethod ov name pl) (fun fx s₂ => wpAny M A (callWith p fx.1 fx.2 (backTo p (starEach (exprs es) env)) (backToKw p (keywordEach [] env))) Q E s₂) E s₁) E s) :
    wpAny M A (eval (.Call (.Attribute o name apos) (exprs es) [] p) env) Q E s := by
  rw [arm_eval_Call, hb]
  refine wpAny_bind (wpAny_mono h (fun ov s₁ h₁ => wpAny_bind (wpAny_standAt ?_)) fun _ _ e => e)
  have hform : methodCallForm ((exprs es).length + ([] : List Keyword).length) (backTo p (starEach (exprs es) env)) (backToKw p (keywordEach [] env)) = true := by
    unfold methodCallForm
    have h1 : (backTo p (starEach (exprs es) env)).all (fun x => !x.1) = true := by
      rw [List.all_eq_true]
      intro x m
      have := List.any_eq_false.mp (back_ns (es := es) (pos := p) (env := env)) x m
      simpa using this
    have h2 : (exprs es).length = es.length := List.length_map _
    have h3 : (backToKw p (keywordEach [] env)).all (fun x => x.1.isSome) = true := rfl
    have h4 : (backToKw p (keywordEach [] env)).isEmpty = true := rfl
    rw [h1, h3, h4, h2]
    simp
    omega
  have hpos : methodCallPos true o env apos p = pure p := by unfold methodCallPos; simp [hline]
  unfold methodCall
  rw [hform]
  refine wpAny_bind (wpAny_holding (wpAny_mono (h₁ _) (fun fx s₂ h₂ => ?_) fun _ _ e => e))
  exact wpAny_bind (wpAny_of_eq hpos h₂)
end
namespace X1
variable {u : U} {n : Nat} {C : Nm}
inductive WhI {u : U} {n : Nat} {C : Nm} (t : XT u n C) (body : XS u n C) (d : Dy) (s : Shared) (σ' : List SV) (fl : Fl) (k : Nat) (s₁ : Shared) : Prop
  | mk (σ₁ : List SV) (cs₁ : List CS) (hw : whileD t.den body.den k σ₁ = some (fl, σ')) (I : Inv C d σ₁ s₁.heap cs₁) (sm : Sm s s₁) : WhI t body d s σ' fl k s₁
noncomputable def while_ (fuel : Nat) (t : XT u n C) (body : XS u n C) (p : Pos) : X1 u n C where
  st := .While t.e body.ss [] p
  den σ := whileD t.den body.den fuel σ
  snd := by
    intro σ fl σ' h d s cs D I
    refine wpAny_While (codeAny_mono (R := fun r s' => match r with
      | .ok f => Sm s s' ∧ ∃ cs', Inv C d σ' s'.heap cs' ∧ FlR C d s'.heap fl f
      | .error e => False) (genR fun QQ hQ => codeAny_whileLoop (WhI t body d s σ' fl) ?_ fuel ⟨σ, cs, h, I, Sm.refl _⟩) fun r s' z => ?_)
    · rintro k s₁ ⟨σ₁, cs₁, hw, I₁, sm⟩
      cases k with
      | zero => exact nn0 hw
      | succ k =>
        unfold whileD at hw
        (refine Classical.byContradiction fun hnn => ?_; split at (hw) <;> (refine hnn ?_; clear hnn))
        · rename_i ht
          refine ex (t.snd σ₁ _ ht d s₁ cs₁ D I₁) fun z s₂ q => ?_
          rw [q.2]
          simp only [if_true]
          have I₂ := I₁.keeps q.1.le
          (refine Classical.byContradiction fun hnn => ?_; split at (hw) <;> (refine hnn ?_; clear hnn))
          · rename_i σ₂ hb
            refine ex (body.snd σ₁ _ _ hb d s₂ cs₁ D I₂) fun f s₃ r => ?_
            refine sAEA r fun sm3 cs3 I3 z26 => ?_; try clear r; (first | subst z26 | cases (z26))
            exact ⟨k, Nat.lt_succ_self k, σ₂, cs3, hw, I3, sm.trans (q.1.sm.trans sm3)⟩
          · rename_i σ₂ hb
            cases (hw)
            refine ex (body.snd σ₁ _ _ hb d s₂ cs₁ D I₂) fun f s₃ r => ?_
            refine sAEA r fun sm3 cs3 I3 z27 => ?_; try clear r; (first | subst z27 | cases (z27))
            exact hQ (.ok _) _ ⟨sm.trans (q.1.sm.trans sm3), cs3, I3, rfl⟩
          · rename_i v σ₂ hb
            cases (hw)
            refine ex (body.snd σ₁ _ _ hb d s₂ cs₁ D I₂) fun f s₃ r => ?_
            refine sAEAEA r fun sm3 cs3 I3 x z28 hr => ?_; try clear r; (first | subst z28 | cases (z28))
            exact hQ (.ok _) _ ⟨sm.trans (q.1.sm.trans sm3), cs3, I3, x, rfl, hr⟩
          · exact nn0 hw
        · rename_i ht
          refine ex (t.snd σ₁ _ ht d s₁ cs₁ D I₁) fun z s₂ q => ?_
          cases (hw)
          rw [q.2]
          exact wpAny_execs_nil (hQ (.ok _) _ ⟨sm.trans q.1.sm, cs₁, I₁.keeps q.1.le, rfl⟩)
        · exact nn0 hw
    · cases r with
      | ok f => exact z
      | error e => exact z.elim
noncomputable def app (i : Nat) (x : Str) (k : NameKind) (hx : C.slots[i]? = some (x, k)) (a : XA u n C) (np apos p p2 : Pos) (hline : (apos.endLine == p.line) = true) : X1 u n C where
  st := .Expr (.Call (.Attribute (.Name x np) "append" apos) (exprs [a]) [] p) p2
  den σ := match σ[i]? with
    | some (.own true xs) => match a.x.den σ with
      | some (v, b) => if lenOk xs.length && (!b || v.flat) then some (.next, σ.set i (.own true (xs ++ [v]))) else none
      | none => none
    | _ => none
  snd := by
    intro σ fl σ' h d s cs D I
    (refine Classical.byContradiction fun hnn => ?_; split at (h) <;> (refine hnn ?_; clear hnn))
    · rename_i xs hi
      (refine Classical.byContradiction fun hnn => ?_; split at (h) <;> (refine hnn ?_; clear hnn))
      · rename_i v b hv
        (refine Classical.byContradiction fun hnn => ?_; split at (h) <;> (refine hnn ?_; clear hnn))
        · rename_i hc
          rw [Bool.and_eq_true] at hc
          cases (h)
          refine sEEAA (I.ownAt hi) fun ad us hca ho hr => ?_
          have hlen := of_decide_eq_true hc.1
          refine wpAny_Expr ?_ (by unfold interactive; rw [D.env.kind]; rfl) (by rfl)
          refine meth_gen rfl (show (1 : Nat) < 29 by decide) hline (ownName D I hx hca fun pl => ?_)
          refine sE ho.plain fun nn e0 => ?_
          refine Calls.getMethod_list_append e0 rfl rfl ?_
          have hden : denL [a] σ = some ([v], b || false) := by unfold denL; rw [hv]; rfl
          refine callWith_ok hden Keepable.bi D I fun us2 s₂ k I2 r => ?_
          rw [Bool.or_false] at r
          refine Rs.consC r fun y _ eqx rX r0 => ?_
          clear r; cases (eqx); revert rX; intro r
          (refine Rs.nilC r0 fun z271 => ?_; clear r0; cases (z271))
          have r' : R (hideAll s₂.heap (hid C d cs false)) v y := by
            cases b with
            | false => exact r
            | true => exact r.of_flat (by simpa using hc.2)
          have e := hr.length
          have hsz : us.toArray.size ≤ sizeLine := by
            have : sizeLine = 2 ^ 24 := rfl
            rw [List.size_toArray]; omega
          have rr : Rs (hideAll s₂.heap (hid C d cs false)) (xs ++ [v]) (us ++ [y]) := (hr.mono (Le.hides_same k.le)).append (.cons r' .nil)
          exact wpAny_list_append_plain (PlainList.keeps k.le ⟨nn, e0⟩) (fun h' p sm => ⟨k.sm.trans ⟨h', s₂.toks, rfl⟩, cs, I2.ownSet D hca sm (OwnL.of_plain (by simpa using p)) rr, rfl⟩) hsz
        · exact nn0 h
      · exact nn0 h
    · exact nn0 h
noncomputable def setItem (i : Nat) (x : Str) (k : NameKind) (hx : C.slots[i]? = some (x, k)) (a b : XE u n C) (np p1 p : Pos) (hsw : ∀ env, swapsWith a.e (some (.Subscript (.Name x np) b.e p1)) p.line env = pure false) : X1 u n C where
  st := .Assign [.Subscript (.Name x np) b.e p1] a.e p
  den σ := match σ[i]? with
    | some (.own _ xs) => match a.den σ with
      | some (v, f) => match b.den σ with
        | some (.int j, _) => if decide (0 ≤ j) && decide (j < xs.length) && lenOk xs.length && (!f || v.flat) then some (.next, σ.set i (.own false (xs.set j.toNat v))) else none
        | _ => none
      | none => none
    | _ => none
  snd := by
    intro σ fl σ' h d s cs D I
    (refine Classical.byContradiction fun hnn => ?_; split at (h) <;> (refine hnn ?_; clear hnn))
    · rename_i pf xs hi
      (refine Classical.byContradiction fun hnn => ?_; split at (h) <;> (refine hnn ?_; clear hnn))
      · rename_i v f hv
        (refine Classical.byContradiction fun hnn => ?_; split at (h) <;> (refine hnn ?_; clear hnn))
        · rename_i j g hj
          (refine Classical.byContradiction fun hnn => ?_; split at (h) <;> (refine hnn ?_; clear hnn))
          · rename_i hc
            rw [Bool.and_eq_true, Bool.and_eq_true, Bool.and_eq_true, decide_eq_true_eq, decide_eq_true_eq] at hc
            cases (h)
            refine sEEAA (I.ownAt hi) fun ad us hca ho hr => ?_
            have hlen := of_decide_eq_true hc.1.2
            have e := hr.length
            refine wpAny_Assign_Subscript (ex (a.snd σ v f hv d s cs D I) fun y s₁ q => ?_) (hsw _)
            have I1 := I.keeps q.1.le
            refine ownName D I1 hx hca (ex (b.snd σ _ g hj d s₁ cs D I1) fun z s₂ q2 => ?_)
            have I2 := I1.keeps q2.1.le
            have q22 := q2.2
            (refine R.intC q22 fun _ z276 => ?_; clear q22; cases (z276))
            have k := q.1.trans q2.1
            have ho2 : s₂.heap.IsList ad us.toArray := let ⟨o, e, z⟩ := ho.isList; ⟨o, k.le _ _ e, z⟩
            have r' : R (hideAll s₂.heap (hid C d cs false)) v y := by
              have r1 := q.2.mono (Le.hides_same q2.1.le)
              cases f with
              | false => exact r1
              | true => exact r1.of_flat (by simpa using hc.2)
            refine wpAny_setItem_list ho2 hc.1.1.1 (by omega) (by rw [List.size_toArray]; omega) fun h' p sm => ⟨k.sm.trans ⟨h', s₂.toks, rfl⟩, cs, I2.ownSet D hca sm (us := us.set j.toNat y) (OwnL.of_list (by simpa using p)) ((hr.mono (Le.hides_same k.le)).set _ r'), rfl⟩
          · exact nn0 h
        · exact nn0 h
      · exact nn0 h
    · exact nn0 h
end X1
theorem raw_mul_list {prog : Program} {w : World} {A : Around} {E : Value → Shared → Prop} {s : Shared} {l : Addr} {items : Array Value} {k : Nat} {x : Int} {t : Tok} {Q : Value → Shared → Prop}
    (hl : s.heap.get? l = some { cls := .type "list", data := .seq items k }) (h0 : -(2 ^ 63 : Int) ≤ x) (h1 : x < 2 ^ 63) (hz : items.size * x.toNat ≤ 2 ^ 24)
    (h : Q (.ref s.heap.objs.size) { s with heap := s.heap.push { cls := .type "list", data := .seq (List.foldl (fun x1 x2 => x1 ++ x2) #[] (List.replicate (if items.isEmpty = true then 0 else x.toNat) items)) } }) :
    wpAny (model prog w) A (binaryOp .Mult (.ref l) (.int x t)) Q E s := by
  have step := AutoListH.list___mul___list_int_3 l items k x t (by simp [Builtin.List.listFitsIndex]; omega) (by omega) (by simp [Builtin.List.listTooLong, sizeLine]; omega)
  refine wpAny_binaryOp_repeat_ref (T := "list") (U := "int") (by decide) ⟨_, hl, rfl⟩ (fun s' => typeIs_int s' x t) noFill_list_mul F.fills_int_mul F.slot_int_rmul repeat_list F.slot_int_index.lookup ?_
  refine call_meets F.slot_int_rmul (typeIs_int s x t) F.entry_int_rmul (F.args_int_rmul_2 _ _) (int___rmul___int_list x t l items k) ⟨hl, rfl, ⟨_, hl, rfl⟩, ?_⟩
  exact call_meets F.slot_list_mul ⟨_, hl, rfl⟩ F.entry_list_mul (F.args_list_mul_2 _ _) step ⟨hl, h⟩
theorem Rs.replicate {h : Heap} {w : V} {y : Value} (r : R h w y) : ∀ m : Nat, Rs h (List.replicate m w) (List.replicate m y)
  | 0 => .nil
  | m + 1 => by rw [List.replicate_succ, List.replicate_succ]; exact .cons r (Rs.replicate r m)
section
variable {u : U} {n : Nat} {C : Nm}
structure XGA (u : U) (n : Nat) (C : Nm) where
  g : XG u n C
  ns : isStarred g.t = false
noncomputable def asgs : List (XGA u n C) → List V → List SV → Option (List SV)
  | [], [], σ => some σ
  | g :: gs, x :: xs, σ => match g.g.den x σ with
    | some σ' => asgs gs xs σ'
    | none => none
  | _, _, _ => none
noncomputable def tgts (l : List (XGA u n C)) : List PySem.Expr := l.map (·.g.t)
theorem asgs_len : ∀ {gs : List (XGA u n C)} {xs : List V} {σ σ' : List SV}, asgs gs xs σ = some σ' → gs.length = xs.length
  | [], [], _, _, _ => rfl
  | [], _ :: _, _, _, h => by exact nn0 h
  | _ :: _, [], _, _, h => by exact nn0 h
  | g :: gs, x :: xs, σ, σ', h => by
    unfold asgs at h
    (refine Classical.byContradiction fun hnn => ?_; split at (h) <;> (refine hnn ?_; clear hnn))
    · rw [List.length_cons, List.length_cons, asgs_len h]
    · exact nn0 h
theorem assign_ns {e : PySem.Expr} {rest : List PySem.Expr} {env : Env} (h : isStarred e = false) : assignEach (e :: rest) env = (false, PySem.assign e env) :: assignEach rest env := by
  cases (e) <;> first | rfl | exact nn3 h
theorem tg_len : ∀ (gs : List (XGA u n C)) (env : Env), (assignEach (tgts gs) env).length = gs.length ∧ (assignEach (tgts gs) env).findIdx? (·.1) = none
  | [], _ => ⟨rfl, rfl⟩
  | g :: gs, env => by
    have ih := tg_len gs env
    show (assignEach (g.g.t :: tgts gs) env).length = _ ∧ (assignEach (g.g.t :: tgts gs) env).findIdx? _ = none
    rw [assign_ns g.ns]
    refine ⟨by rw [List.length_cons, List.length_cons, ih.1], ?_⟩
    rw [List.findIdx?_cons]
    simp [ih.2]
theorem asgs_ok : ∀ {gs : List (XGA u n C)} {xs : List V} {vs : List Value} {σ σ' : List SV}, asgs gs xs σ = some σ' → ∀ {d : Dy} {s : Shared} {cs : List CS}, DOk u n C d → Inv C d σ s.heap cs → Rs (hideAll s.heap (hid C d cs false)) xs vs →
    wpAny (model u.prog u.w) d.A (assignInOrder ((assignEach (tgts gs) d.env).map (·.2)) vs) (fun _ s' => Sm s s' ∧ ∃ cs', Inv C d σ' s'.heap cs' ∧ Le (hideAll s.heap (hid C d cs false)) (hideAll s'.heap (hid C d cs' false)) ∧ ∀ a ∈ wr C d cs', a ∈ wr C d cs) NoE s
  | [], [], vs, σ, σ', h, d, s, cs, D, I, r => by
    cases (h); (refine Rs.nilC r fun z287 => ?_; clear r; cases (z287))
    exact wpAny_assignInOrder_none ⟨Sm.refl _, cs, I, Le.refl _, fun _ m => m⟩
  | [], _ :: _, _, _, _, h, _, _, _, _, _, _ => by exact nn0 h
  | _ :: _, [], _, _, _, h, _, _, _, _, _, _ => by exact nn0 h
  | g :: gs, x :: xs, vs, σ, σ', h, d, s, cs, D, I, r => by
    unfold asgs at h
    (refine Classical.byContradiction fun hnn => ?_; split at (h) <;> (refine hnn ?_; clear hnn))
    · rename_i σ₁ h1
      refine Rs.consC r fun v vs eqx r1 r2 => ?_
      clear r; cases (eqx)
      show wpAny _ _ (assignInOrder ((assignEach (g.g.t :: tgts gs) d.env).map (·.2)) _) _ _ s
      rw [assign_ns g.ns]
      refine wpAny_assignInOrder_more (ex (g.g.snd x σ σ₁ h1 d s cs v D I r1) fun _ s₁ q => ?_)
      refine sAEAA q fun sm cs1 I1 l1 w1 => ?_; try clear q
      refine ex (asgs_ok h D I1 (r2.mono l1)) fun _ s₂ q2 => ?_
      refine sAEAA q2 fun sm2 cs2 I2 l2 w2 => ?_; try clear q2
      exact ⟨sm.trans sm2, cs2, I2, l1.trans l2, fun a m => w1 a (w2 a m)⟩
    · exact nn0 h
namespace XG
noncomputable def tup (gs : List (XGA u n C)) (k : Nat) (p : Pos) : XG u n C where
  t := .Tuple (tgts gs) k p
  den v σ := match v with
    | .tup xs => asgs gs xs σ
    | _ => none
  snd := by
    intro v σ σ' h d s cs w D I r
    (refine Classical.byContradiction fun hnn => ?_; split at (h) <;> (refine hnn ?_; clear hnn))
    · rename_i xs
      refine R.tupC r fun vs a eqx ht hr => ?_
      clear r; cases (eqx)
      have hl := tg_len gs d.env
      refine wpAny_assign_Tuple D.room.handled (IsTup.of_hide ht) (by rw [hl.1, List.size_toArray, asgs_len h, hr.length]) hl.2 fun h' eb => ?_
      have k : Le s.heap h' := fun b o e => eb b o (fun q => by rw [q, fresh_size] at e; exact nn0 e) e
      refine ex (asgs_ok h (s := { s with heap := h' }) D (I.keeps k) (hr.mono (Le.hides_same k))) fun _ s₁ q => ?_
      refine sAEAA q fun sm cs1 I1 l1 w1 => ?_; try clear q
      exact ⟨Sm.trans ⟨h', s.toks, rfl⟩ sm, cs1, I1, (Le.hides_same k).trans l1, w1⟩
    · exact nn0 h
end XG
end
namespace X1
variable {u : U} {n : Nat} {C : Nm}
noncomputable def assignT (g : XG u n C) (a : XE u n C) (p : Pos) (hns : isStarred g.t = false) (h1 : ∀ env, swapsWithSole [g.t] a.e p.line env = pure false) (h2 : ∀ env, swappedStores [g.t] a.e env = pure none) : X1 u n C where
  st := .Assign [g.t] a.e p
  den σ := match a.den σ with
    | some (v, false) => match g.den v σ with
      | some σ' => some (.next, σ')
      | none => none
    | _ => none
  snd := by
    intro σ fl σ' h d s cs D I
    (refine Classical.byContradiction fun hnn => ?_; split at (h) <;> (refine hnn ?_; clear hnn))
    · rename_i v ha
      (refine Classical.byContradiction fun hnn => ?_; split at (h) <;> (refine hnn ?_; clear hnn))
      · rename_i σ₁ hg
        cases (h)
        refine wpAny_Assign_stores (ex (a.snd σ v false ha d s cs D I) fun w s₁ q => ?_) (h1 _) (h2 _)
        rw [assign_ns hns]
        refine ex (g.snd v σ _ hg d s₁ cs w D (I.keeps q.1.le) q.2) fun _ s₂ z => ?_
        refine sAEA z fun sm cs1 I1 _ => ?_; try clear z
        exact ⟨q.1.sm.trans sm, cs1, I1, rfl⟩
      · exact nn0 h
    · exact nn0 h
noncomputable def assign3 (g1 g2 g3 : XG u n C) (a : XE u n C) (p : Pos) (h1 : ∀ env, List.map (fun x => x.snd) (assignEach [g1.t, g2.t, g3.t] env) = [PySem.assign g1.t env, PySem.assign g2.t env, PySem.assign g3.t env]) (h2 : ∀ env, swappedStores [g1.t, g2.t, g3.t] a.e env = pure none) : X1 u n C where
  st := .Assign [g1.t, g2.t, g3.t] a.e p
  den σ := match a.den σ with
    | some (v, false) => match g1.den v σ with
      | some σ1 => match g2.den v σ1 with
        | some σ2 => match g3.den v σ2 with
          | some σ3 => some (.next, σ3)
          | none => none
        | none => none
      | none => none
    | _ => none
  snd := by
    intro σ fl σ' h d s cs D I
    (refine Classical.byContradiction fun hnn => ?_; split at (h) <;> (refine hnn ?_; clear hnn))
    · rename_i v ha
      (refine Classical.byContradiction fun hnn => ?_; split at (h) <;> (refine hnn ?_; clear hnn))
      · rename_i σ1 e1
        (refine Classical.byContradiction fun hnn => ?_; split at (h) <;> (refine hnn ?_; clear hnn))
        · rename_i σ2 e2
          (refine Classical.byContradiction fun hnn => ?_; split at (h) <;> (refine hnn ?_; clear hnn))
          · rename_i σ3 e3
            cases (h)
            refine wpAny_Assign_three (ex (a.snd σ v false ha d s cs D I) fun w s₁ q => ?_) (h1 _) (h2 _)
            refine ex (g1.snd v σ _ e1 d s₁ cs w D (I.keeps q.1.le) q.2) fun _ s₂ z => ?_
            refine sAEAA z fun sm1 cs1 I1 l1 _ => ?_; try clear z
            refine ex (g2.snd v _ _ e2 d s₂ cs1 w D I1 (q.2.mono l1)) fun _ s₃ z => ?_
            refine sAEAA z fun sm2 cs2 I2 l2 _ => ?_; try clear z
            refine ex (g3.snd v _ _ e3 d s₃ cs2 w D I2 (q.2.mono (l1.trans l2))) fun _ s₄ z => ?_
            refine sAEAA z fun sm3 cs3 I3 l3 _ => ?_; try clear z
            exact ⟨q.1.sm.trans (sm1.trans (sm2.trans sm3)), cs3, I3, rfl⟩
          · exact nn0 h
        · exact nn0 h
      · exact nn0 h
    · exact nn0 h
noncomputable def assignCat (i : Nat) (x : Str) (k : NameKind) (hx : C.slots[i]? = some (x, k)) (hk : k ≠ .free) (a b : XE u n C) (p2 p1 p : Pos) : X1 u n C where
  st := .Assign [.Name x p1] (.BinOp a.e .Add b.e p2) p
  den σ := match a.den σ with
    | some (.list xs, f) => match b.den σ with
      | some (.list ys, g) => if lenOk (xs.length + ys.length) && xs.all V.flat && ys.all V.flat then some (.next, σ.set i (.own true (xs ++ ys))) else none
      | _ => none
    | _ => none
  snd := by
    intro σ fl σ' h d s cs D I
    (refine Classical.byContradiction fun hnn => ?_; split at (h) <;> (refine hnn ?_; clear hnn))
    · rename_i xs f ha
      (refine Classical.byContradiction fun hnn => ?_; split at (h) <;> (refine hnn ?_; clear hnn))
      · rename_i ys g hb
        (refine Classical.byContradiction fun hnn => ?_; split at (h) <;> (refine hnn ?_; clear hnn))
        · rename_i hc
          rw [Bool.and_eq_true, Bool.and_eq_true] at hc
          cases (h)
          have hlen := of_decide_eq_true hc.1.1
          refine wpAny_Assign_Name (wpAny_BinOp (XE.two (a.snd σ _ f ha) (b.snd σ _ g hb) D I fun v w s' k I' r1 r2 => ?_)) (by rfl)
          refine R.listC r1 fun vs l eqx hl hr => ?_
          clear r1; cases (eqx)
          refine R.listC r2 fun us l2 eqx hl2 hr2 => ?_
          clear r2; cases (eqx)
          have e1 := hr.length
          have e2 := hr2.length
          refine raw_add_lists (IsList.of_hide hl) (IsList.of_hide hl2) ?_ (Nat.le_trans (by omega) (show 2 ^ 20 ≤ sizeLine by decide))
          refine ex (store_own (pf := true) D I' (Le.push _ _) hx hk (fresh_size _) ⟨0, Heap.get?_push_size _ rfl⟩ ((hr.of_flat hc.1.2).append (hr2.of_flat hc.2))) fun _ s₂ z => ?_
          refine sAE z fun z1 cs' z2 => ?_; try clear z
          exact ⟨(k.sm.trans ⟨_, _, rfl⟩).trans z1, cs', z2, rfl⟩
        · exact nn0 h
      · exact nn0 h
    · exact nn0 h
end X1
namespace XE
variable {u : U} {n : Nat} {C : Nm}
noncomputable def rep (c : XA u n C) (b : XE u n C) (p1 p : Pos) : XE u n C where
  e := .BinOp (.List (exprs [c]) p1) .Mult b.e p
  den σ := match c.x.den σ with
    | some (v, f) => match b.den σ with
      | some (.int k, g) => if decide (-1048576 ≤ k) && decide (k ≤ 1048576) then some (.list (List.replicate k.toNat v), f || g) else .none
      | _ => .none
    | .none => .none
  snd := by
    intro σ v bb h d s cs D I
    (refine Classical.byContradiction fun hnn => ?_; split at (h) <;> (refine hnn ?_; clear hnn))
    · rename_i w f hc
      (refine Classical.byContradiction fun hnn => ?_; split at (h) <;> (refine hnn ?_; clear hnn))
      · rename_i k g hb
        (refine Classical.byContradiction fun hnn => ?_; split at (h) <;> (refine hnn ?_; clear hnn))
        · rename_i hk
          rw [Bool.and_eq_true, decide_eq_true_eq, decide_eq_true_eq] at hk
          cases (h)
          have hden : denL [c] σ = some ([w], f || false) := by unfold denL; rw [hc]; rfl
          rw [Bool.or_false] at hden
          refine wpAny_BinOp (wpAny_List_spliced (ex (items_ok hden D I) fun us s₁ q => ?_))
          have I1 := I.keeps q.1.le
          have hr := q.2
          refine Rs.consC hr fun y _ eqx r r0 => ?_
          clear hr; cases (eqx)
          (refine Rs.nilC r0 fun z306 => ?_; clear r0; cases (z306))
          refine ⟨by show (1 : Nat) ≤ sizeLine; decide, ?_⟩
          have I2 := I1.keeps (Le.push s₁.heap { cls := .type "list", data := .seq [y].toArray })
          refine ex (b.snd σ _ g hb d _ cs D I2) fun z s₂ q2 => ?_
          have q22 := q2.2
          (refine R.intC q22 fun _ z307 => ?_; clear q22; cases (z307))
          have hl : s₂.heap.get? s₁.heap.objs.size = some { cls := .type "list", data := .seq [y].toArray 0 } := q2.1.le _ _ (Heap.get?_push_size _ rfl)
          refine raw_mul_list hl (by omega) (by omega) ?_ ⟨((q.1.trans (Kp.heap _ (Le.push _ _))).trans q2.1).trans (Kp.heap _ (Le.push _ _)), ?_⟩
          · show 1 * k.toNat ≤ 2 ^ 24
            omega
          · have e : ∀ m : Nat, List.foldl (fun x1 x2 => x1 ++ x2) #[] (List.replicate m [y].toArray) = (List.replicate m y).toArray := fun m => by
              have : ∀ (m : Nat) (acc : Array Value), List.foldl (fun x1 x2 => x1 ++ x2) acc (List.replicate m [y].toArray) = acc ++ (List.replicate m y).toArray := by
                intro m
                induction m with
                | zero => intro acc; simp
                | succ m ih =>
                  intro acc
                  rw [List.replicate_succ, List.foldl_cons, ih, List.replicate_succ]
                  apply Array.ext'
                  simp
              rw [this]; simp
            have I3 := I2.keeps q2.1.le
            refine .list (vs := List.replicate k.toNat y) ⟨_, fresh_seen rfl (I3.lt' D _), rfl, 0, ?_⟩ ?_
            · show Data.seq _ _ = _
              rw [if_neg (by simp), e]
            · exact Rs.replicate ((r.mono (Le.hides_same ((Le.push _ _).trans (q2.1.le.trans (Le.push s₂.heap _))))).mono (hid_le _ (by intro z; rw [z]; rfl))) _
        · exact nn0 h
      · exact nn0 h
    · exact nn0 h
end XE
section
variable {u : U} {n : Nat} {C : Nm}
structure NmOK (C : Nm) (sc : Scope) : Prop where
  kind : sc.kind = .function
  kinds : ∀ p ∈ C.slots, sc.names.lookup p.1 = some p.2
  globs : ∀ x ∈ C.globs, sc.names.lookup x = some .globalImplicit
  three : ∀ p ∈ C.slots, p.2 = .local ∨ p.2 = .cell ∨ p.2 = .free
  nodup : (C.slots.map (·.1)).Nodup
  noClass : ∀ p ∈ C.slots, (p.1 == ("__classdict__" : Str)) = false ∧ (p.1 == ("__debug__" : Str)) = false
noncomputable def nmB (C : Nm) (sc : Scope) : Bool :=
  sc.kind == .function && C.slots.all (fun p => sc.names.lookup p.1 == some p.2) && C.globs.all (fun x => sc.names.lookup x == some .globalImplicit) &&
  C.slots.all (fun p => p.2 == .local || p.2 == .cell || p.2 == .free) && decide ((C.slots.map (·.1)).Nodup) && C.slots.all (fun p => !(p.1 == ("__classdict__" : Str)) && !(p.1 == ("__debug__" : Str)))
theorem NmOK.of {C : Nm} {sc : Scope} (h : nmB C sc = true) : NmOK C sc := by
  unfold nmB at h
  simp only [Bool.and_eq_true, List.all_eq_true, beq_iff_eq, decide_eq_true_eq, Bool.or_eq_true, Bool.not_eq_true'] at h
  refine sA h fun z29 f => ?_; try clear h; refine sA z29 fun z30 e => ?_; try clear z29; refine sA z30 fun z31 d => ?_; try clear z30; refine sA z31 fun z32 c => ?_; try clear z31; refine sA z32 fun a b => ?_; try clear z32
  exact ⟨a, b, c, fun p m => by rcases d p m with (q | q) | q <;> simp [q], e, fun p m => f p m⟩
noncomputable def allLocal (C : Nm) : Bool := C.slots.all fun p => p.2 == .local
noncomputable def sigma (C : Nm) (args : List V) : List SV := args.map SV.val ++ List.replicate (C.slots.length - args.length) SV.unset
noncomputable def csOf (C : Nm) (vs : List Value) : List CS := vs.map CS.val ++ List.replicate (C.slots.length - vs.length) CS.unset
theorem fst_zip : ∀ (ks : List Str) (vs : List Value), (ks.zip vs).map (·.1) = ks.take vs.length
  | [], _ => by simp
  | _ :: _, [] => by simp
  | k :: ks, v :: vs => by
    rw [List.zip_cons_cons, List.map_cons, fst_zip ks vs, List.length_cons, List.take_succ_cons]
theorem nodup_rev {l : List Str} (h : l.Nodup) : l.reverse.Nodup := by
  unfold List.Nodup
  rw [List.pairwise_reverse]
  exact List.Pairwise.imp (fun {a b} (q : a ≠ b) => Ne.symm q) h
theorem lookup_zip : ∀ (ks : List Str) (vs : List Value), ks.Nodup → vs.length ≤ ks.length → ∀ (i : Nat) (x : Str), ks[i]? = some x → ((ks.zip vs).reverse).lookup x = vs[i]? := by
  intro ks vs hn hl i x hx
  have key : ∀ (l : List (Str × Value)), (l.map (·.1)).Nodup → ∀ (v : Value), (x, v) ∈ l → l.lookup x = some v := by
    intro l
    induction l with
    | nil => intro _ v m; exact nn4 m
    | cons p l ih =>
      intro hnd v m
      obtain ⟨y, w⟩ := p
      rw [List.map_cons, List.nodup_cons] at hnd
      rcases List.mem_cons.mp m with m | m
      · cases (m); simp
      · have : x ≠ y := fun e => hnd.1 (List.mem_map.mpr ⟨_, m, e⟩)
        rw [List.lookup_cons, beq_eq_false_iff_ne.mpr this]
        exact ih hnd.2 v m
  have hz : ((ks.zip vs).reverse.map (·.1)).Nodup := by
    rw [List.map_reverse, fst_zip]
    exact nodup_rev (List.Nodup.sublist (List.take_sublist _ _) hn)
  rcases Nat.lt_or_ge i vs.length with q | q
  · have hv : vs[i]? = some vs[i] := List.getElem?_eq_getElem q
    rw [hv]
    refine key _ hz _ (List.mem_reverse.mpr ?_)
    have : (ks.zip vs)[i]? = some (x, vs[i]) := by rw [List.getElem?_zip_eq_some]; exact ⟨hx, hv⟩
    exact List.mem_of_getElem? this
  · rw [List.getElem?_eq_none q]
    have : ∀ l : List (Str × Value), (∀ p ∈ l, p.1 ≠ x) → l.lookup x = none := by
      intro l
      induction l with
      | nil => intro _; rfl
      | cons p l ih =>
        intro h
        rw [List.lookup_cons, beq_eq_false_iff_ne.mpr (Ne.symm (h p List.mem_cons_self))]
        exact ih fun q m => h q (List.mem_cons_of_mem _ m)
    refine this _ fun p m e => ?_
    have m := List.mem_reverse.mp m
    obtain ⟨j, hj, rfl⟩ := List.getElem_of_mem m
    have hj' : j < vs.length := by rw [List.length_zip] at hj; omega
    have hjk : j < ks.length := by omega
    have e1 : ks[j] = x := by simpa using e
    have : j = i := by
      have a : ks[j]? = some x := by rw [List.getElem?_eq_getElem hjk, e1]
      exact (List.getElem?_inj hjk hn).mp (a.trans hx.symm)
    omega
theorem sigma_get {args : List V} {vs : List Value} {h : Heap} (r : Rs h args vs) (hl : args.length ≤ C.slots.length) : ∀ (i : Nat) (sv : SV) (c : CS), (sigma C args)[i]? = some sv → (csOf C vs)[i]? = some c → ∀ g : Heap, SR g h sv c := by
  intro i sv c e1 e2 g
  have e := r.length
  unfold sigma at e1
  unfold csOf at e2
  rcases Nat.lt_or_ge i args.length with q | q
  · rw [List.getElem?_append_left (by rw [List.length_map]; exact q), List.getElem?_map] at e1
    rw [List.getElem?_append_left (by rw [List.length_map]; omega), List.getElem?_map] at e2
    cases ea : args[i]? with
    | none => rw [ea] at e1; exact nn0 e1
    | some a =>
      refine sEA (r.get ea) fun v ev hr => ?_
      rw [ea] at e1; rw [ev] at e2
      cases (e1); (refine inj1 e2 ?_; clear e2)
      exact .val hr
  · rw [List.getElem?_append_right (by rw [List.length_map]; exact q)] at e1
    rw [List.getElem?_append_right (by rw [List.length_map]; omega)] at e2
    rw [List.getElem?_replicate] at e1 e2
    (refine Classical.byContradiction fun hnn => ?_; split at (e1) <;> (refine hnn ?_; clear hnn))
    · (refine Classical.byContradiction fun hnn => ?_; split at (e2) <;> (refine hnn ?_; clear hnn))
      · cases (e1); (refine inj1 e2 ?_; clear e2); exact .unset
      · exact nn0 e2
    · exact nn0 e1
theorem adrs_csOf {vs : List Value} : adrs (csOf C vs) = [] := by
  unfold adrs csOf
  rw [List.flatMap_append]
  have h1 : (vs.map CS.val).flatMap CS.adr = [] := by
    induction vs with
    | nil => rfl
    | cons v vs ih => rw [List.map_cons, List.flatMap_cons, ih]; rfl
  have h2 : ∀ m, (List.replicate m CS.unset).flatMap CS.adr = [] := fun m => by
    induction m with
    | zero => rfl
    | succ m ih => rw [List.replicate_succ, List.flatMap_cons, ih]; rfl
  rw [h1, h2]; rfl
theorem csOf_len {vs : List Value} (hl : vs.length ≤ C.slots.length) : (csOf C vs).length = C.slots.length := by
  unfold csOf; rw [List.length_append, List.length_map, List.length_replicate]; omega
theorem csOf_val {vs : List Value} {i : Nat} {c : CS} (e : (csOf C vs)[i]? = some c) : c.value = vs[i]? := by
  unfold csOf at e
  rcases Nat.lt_or_ge i vs.length with q | q
  · rw [List.getElem?_append_left (by rw [List.length_map]; exact q), List.getElem?_map] at e
    rw [List.getElem?_eq_getElem q] at e ⊢
    cases (e); rfl
  · rw [List.getElem?_append_right (by rw [List.length_map]; exact q), List.getElem?_replicate] at e
    rw [List.getElem?_eq_none q]
    (refine Classical.byContradiction fun hnn => ?_; split at (e) <;> (refine hnn ?_; clear hnn))
    · cases (e); rfl
    · exact nn0 e
theorem noCells (hc : allLocal C = true) (env : Env) : cellA env C = [] := by
  unfold cellA
  rw [List.filterMap_eq_nil_iff]
  intro p m
  have := List.all_eq_true.mp hc p m
  rw [beq_iff_eq] at this
  rw [if_neg (by rw [this]; exact fun z => by cases (z))]
theorem Inv.begin {d : Dy} {h : Heap} {args : List V} {vs : List Value} (hc : allLocal C = true) (hnd : (C.slots.map (·.1)).Nodup) (hl : args.length ≤ C.slots.length)
    (hn : h.Ns d.env.locals fun x => (((C.slots.map (·.1)).zip vs).reverse).lookup x) (r : Rs (hideAll h (d.W ++ [d.env.locals])) args vs) (keep : Le d.he h) (fr : d.he.get? d.env.locals = none) : Inv C d (sigma C args) h (csOf C vs) := by
  have e := r.length
  have ew : wr C d (csOf C vs) = [d.env.locals] := by unfold wr; rw [noCells hc, adrs_csOf]; rfl
  refine ⟨⟨_, hn, fun i p c e1 e2 => ?_⟩, ?_, csOf_len (by omega), ?_, keep, ?_, ?_, ?_, ?_, ?_⟩
  · have hp := List.all_eq_true.mp hc p (List.mem_of_getElem? e1)
    rw [beq_iff_eq] at hp
    unfold Stored
    rw [hp]
    rw [csOf_val e2]
    exact lookup_zip _ _ hnd (by rw [List.length_map]; omega) i p.1 (by rw [List.getElem?_map, e1]; rfl)
  · unfold sigma; rw [List.length_append, List.length_map, List.length_replicate]; omega
  · intro i sv c e1 e2
    rw [ew]
    exact sigma_get r hl i sv c e1 e2 h
  · rw [ew]; intro a m; cases List.mem_singleton.mp m; exact fr
  · rw [noCells hc, adrs_csOf]; exact fun m => by exact nn4 m
  · rw [noCells hc]; exact fun a m => by exact nn4 m
  · intro i j c c' _ e1 _ a m
    have : a ∈ adrs (csOf C vs) := List.mem_flatMap.mpr ⟨c, List.mem_of_getElem? e1, m⟩
    rw [adrs_csOf] at this; exact nn4 this
  · intro i x dx e1
    have : x ∈ adrs (csOf C vs) := List.mem_flatMap.mpr ⟨_, List.mem_of_getElem? e1, List.mem_cons_self⟩
    rw [adrs_csOf] at this; exact nn4 this
theorem fn_intro {fa : Addr} {oc : Value} {od : Option Addr} {osl : Array (Option Value)} {fd : FuncData} (body : XS u n C) {args : List V} {dV : List V} {dv : List Value} {fl : Fl} {σ' : List SV} {v : V}
    (hK : u.K.lookup fa = some ⟨oc, od, .func fd, osl⟩) (hcode : codeIn u.K fd.code fd.qualname = true) (hbody : fd.body = .stmts body.ss)
    (hnm : NmOK C fd.scope) (hloc : allLocal C = true) (hglob : fd.globals = mainGlobals) (hbi : fd.builtins = builtinsNs)
    (hcell : ∀ x ∈ fd.scope.names, x.2 ≠ .cell) (hco : fd.scope.isCoroutine = false) (hgen : fd.scope.isGenerator = false)
    (hdv : ∀ h, Rs h dV dv) (hl : (args ++ dV).length ≤ C.slots.length)
    (hbind : ∀ (s : Shared) (vs : List Value), u.K.In s.heap → vs.length = args.length → BindsTo s fd ⟨vs, []⟩ ((C.slots.map (·.1)).zip (vs ++ dv)))
    (hrun : body.den (sigma C (args ++ dV)) = some (fl, σ')) (hv : fl = .ret v ∨ (fl = .next ∧ v = .none)) : Fn u (n + 1) (.ref fa) args v := by
  intro hb A W s vs B rm le al rs
  refine wpAny_call ?_
  have X : u.K.In s.heap := B.X.keeps le.le
  have e := rs.length
  have hlen : ((C.slots.map (·.1)).zip (vs ++ dv)).map (·.1) = (C.slots.map (·.1)).take (vs ++ dv).length := fst_zip _ _
  refine codeAny_call_def rm.dep (X _ _ hK) rfl (B.lim.keeps le.le) (codeRec_of X hcode) hbody (hbind s vs X e.symm) hcell ?_ (fun h₀ hns hk => ?_) hco hgen hnm.kind
  · intro x m
    have hx : x.1 ∈ C.slots.map (·.1) := by
      have : x.1 ∈ ((C.slots.map (·.1)).zip (vs ++ dv)).map (·.1) := List.mem_map_of_mem m
      rw [hlen] at this
      exact List.mem_of_mem_take this
    refine sEA (List.mem_map.mp hx) fun p hp e => ?_
    have h1 := hnm.kinds p hp
    have h2 := List.all_eq_true.mp hloc p hp
    rw [beq_iff_eq] at h2
    rw [← e, h1, h2]
  · have kinds : ∀ x, (callEnv fd s.heap.objs.size fa).kindOf x = fd.scope.names.lookup x := fun _ => rfl
    have D : DOk u n C { hb := hb, he := s.heap, A := A.deeper (callEnv fd s.heap.objs.size fa), W := W, env := callEnv fd s.heap.objs.size fa } :=
      ⟨⟨hnm.kind, hglob, hbi, fun p m => .inl (hnm.kinds p m), hnm.globs, hnm.three, fun p m _ _ h => absurd (beq_iff_eq.mp (List.all_eq_true.mp hloc p m)) h, hnm.nodup, hnm.noClass⟩, B, le.le, rm.deeper, al, le.size⟩
    have r0 : Rs (hideAll s.heap W) (args ++ dV) (vs ++ dv) := rs.append (hdv _)
    have r1 : Rs (hideAll h₀ (W ++ [s.heap.objs.size])) (args ++ dV) (vs ++ dv) := r0.mono (Le.hides fun b o e nn => ⟨hk b o e, fun m => by
      rcases List.mem_append.mp m with m | m
      · exact nn m
      · cases List.mem_singleton.mp m
        rw [fresh_size] at e; exact nn0 e⟩)
    have I : Inv C { hb := hb, he := s.heap, A := A.deeper (callEnv fd s.heap.objs.size fa), W := W, env := callEnv fd s.heap.objs.size fa } (sigma C (args ++ dV)) h₀ (csOf C (vs ++ dv)) :=
      Inv.begin hloc hnm.nodup hl hns r1 (fun b o e => hk b o e) (fresh_size _)
    refine ex (body.snd _ fl σ' hrun _ { heap := h₀, gens := s.gens, drawn := s.drawn, toks := s.toks + ((C.slots.map (·.1)).zip (vs ++ dv)).length, os := s.os } _ D I) fun f s' q => ?_
    refine sAEA q fun z33 cs' I' hf => ?_; try clear q; refine sEE z33 fun h' tk z34 => ?_; try clear z33; (first | subst z34 | cases (z34))
    refine ⟨⟨h', tk, rfl, I'.keep⟩, ?_⟩
    rcases hv with rfl | ⟨rfl, rfl⟩
    · refine sEA hf fun x z35 hr => ?_; try clear hf; (first | subst z35 | cases (z35))
      exact hr.mono (Le.hides_sub fun a m => List.mem_append_left _ m)
    · cases (hf)
      exact .none
end
noncomputable def intsV : List V → Option (List Int)
  | [] => some []
  | .int i :: r => (intsV r).map (i :: ·)
  | _ :: _ => none
theorem intsV_are {h : Heap} {xs : List V} : ∀ {vs : List Value} {ns : List Int}, intsV xs = some ns → Rs h xs vs → IntsAre vs ns := by
  induction xs with
  | nil => intro vs ns e r; (refine inj1 e ?_; clear e); (refine Rs.nilC r fun z331 => ?_; clear r; cases (z331)); exact .nil
  | cons x xs ih =>
    intro vs ns e r
    refine Rs.consC r fun _ _ eqx a b => ?_
    clear r; cases (eqx)
    cases a with
    | int i t =>
      have e' : (intsV xs).map (i :: ·) = some _ := e
      refine sEA (Option.map_eq_some_iff.mp e') fun ms e1 z36 => ?_; (first | subst z36 | cases (z36))
      exact .cons i t (ih e1 b)
    | _ => exact nn0 e
theorem are_rs {h : Heap} : ∀ {vs : List Value} {ns : List Int}, IntsAre vs ns → Rs h (ns.map V.int) vs
  | _, _, .nil => .nil
  | _, _, .cons n t r => .cons (.int n t) (are_rs r)
noncomputable def maxL : Int → List Int → Int
  | m, [] => m
  | m, a :: r => maxL (if m < a then a else m) r
theorem maxL_ge : ∀ (l : List Int) (m : Int), m ≤ maxL m l ∧ ∀ a ∈ l, a ≤ maxL m l
  | [], m => ⟨Int.le_refl _, fun _ h => by exact nn4 h⟩
  | b :: r, m => by
    have ih := maxL_ge r (if m < b then b else m)
    refine ⟨?_, fun a h => ?_⟩
    · show m ≤ maxL _ r
      (refine Classical.byContradiction fun hnn => ?_; split at (ih) <;> (refine hnn ?_; clear hnn)) <;> (rename_i q; simp only [q, if_true, if_false]; omega)
    · show a ≤ maxL _ r
      rcases List.mem_cons.mp h with rfl | h
      · (refine Classical.byContradiction fun hnn => ?_; split at (ih) <;> (refine hnn ?_; clear hnn)) <;> (rename_i q; simp only [q, if_true, if_false]; omega)
      · exact ih.2 a h
theorem maxL_mem : ∀ (l : List Int) (m : Int), maxL m l = m ∨ maxL m l ∈ l
  | [], m => .inl rfl
  | b :: r, m => by
    have ih := maxL_mem r (if m < b then b else m)
    show maxL (if m < b then b else m) r = m ∨ maxL (if m < b then b else m) r ∈ b :: r
    rcases ih with q | q
    · by_cases z : m < b
      · rw [if_pos z] at q ⊢; right; rw [q]; exact List.mem_cons_self
      · rw [if_neg z] at q ⊢; exact .inl q
    · exact .inr (List.mem_cons_of_mem _ q)
noncomputable def ins (x : Int) : List Int → List Int
  | [] => [x]
  | a :: r => if x ≤ a then x :: a :: r else a :: ins x r
noncomputable def sortL : List Int → List Int
  | [] => []
  | a :: r => ins a (sortL r)
theorem ins_perm (x : Int) : ∀ l : List Int, (ins x l).Perm (x :: l)
  | [] => .refl _
  | a :: r => by
    unfold ins
    split
    · exact .refl _
    · exact ((ins_perm x r).cons a).trans (.swap x a r)
theorem sortL_perm : ∀ l : List Int, (sortL l).Perm l
  | [] => .refl _
  | a :: r => (ins_perm a (sortL r)).trans ((sortL_perm r).cons a)
theorem ins_sorted (x : Int) : ∀ l : List Int, l.Pairwise (· ≤ ·) → (ins x l).Pairwise (· ≤ ·)
  | [], _ => by simp [ins]
  | a :: r, h => by
    unfold ins
    rw [List.pairwise_cons] at h
    split
    · rename_i q
      rw [List.pairwise_cons, List.pairwise_cons]
      exact ⟨fun b m => by
        rcases List.mem_cons.mp m with rfl | m
        · exact q
        · exact Int.le_trans q (h.1 b m), h⟩
    · rename_i q
      rw [List.pairwise_cons]
      refine ⟨fun b m => ?_, ins_sorted x r h.2⟩
      rcases List.mem_cons.mp ((ins_perm x r).mem_iff.mp m) with rfl | m
      · omega
      · exact h.1 b m
theorem sortL_sorted : ∀ l : List Int, (sortL l).Pairwise (· ≤ ·)
  | [] => .nil
  | a :: r => ins_sorted a _ (sortL_sorted r)
theorem sortL_eq {l m : List Int} (h : m.Perm l) (s : m.Pairwise (· ≤ ·)) : m = sortL l :=
  List.Perm.eq_of_pairwise (le := (· ≤ ·)) (fun _ _ _ _ => Int.le_antisymm) s (sortL_sorted l) (h.trans (sortL_perm l).symm)
noncomputable def smallI (i : Int) : Bool := decide (i.natAbs < 1048576)
section
variable {u : U} {n : Nat}
noncomputable def lenF : List V → Option V
  | [.list xs] => if lenOk xs.length then some (.int xs.length) else none
  | [.tup xs] => if lenOk xs.length then some (.int xs.length) else none
  | _ => none
noncomputable def lenC : Co u n (.builtin "len") := ⟨lenF, by
  intro args r e hb A W s vs B rm le al rs
  unfold lenF at e
  (refine Classical.byContradiction fun hnn => ?_; split at (e) <;> (refine hnn ?_; clear hnn))
  · (refine Classical.byContradiction fun hnn => ?_; split at (e) <;> (refine hnn ?_; clear hnn))
    · rename_i q
      cases (e)
      have q := of_decide_eq_true q
      refine Rs.consC rs fun _ _ eqx a b => ?_
      clear rs; cases (eqx)
      (refine Rs.nilC b fun z335 => ?_; clear b; cases (z335))
      refine R.listC a fun us l eqx hl hr => ?_
      clear a; cases (eqx)
      rw [hr.length]
      have e := hr.length
      refine call_len_list (IsList.of_hide hl) (by rw [List.size_toArray]; omega) ⟨Kp.tok .., ?_⟩
      rw [List.size_toArray]; exact .int _ _
    · exact nn0 e
  · (refine Classical.byContradiction fun hnn => ?_; split at (e) <;> (refine hnn ?_; clear hnn))
    · rename_i q
      cases (e)
      have q := of_decide_eq_true q
      refine Rs.consC rs fun _ _ eqx a b => ?_
      clear rs; cases (eqx)
      (refine Rs.nilC b fun z338 => ?_; clear b; cases (z338))
      refine R.tupC a fun us l eqx hl hr => ?_
      clear a; cases (eqx)
      rw [hr.length]
      have e := hr.length
      refine len_tuple (IsTup.of_hide hl) (by rw [List.size_toArray]; omega) ⟨Kp.tok .., ?_⟩
      rw [List.size_toArray]; exact .int _ _
    · exact nn0 e
  · exact nn0 e⟩
noncomputable def rangeF : List V → Option V
  | [.int b] => some (.rng 0 b)
  | [.int a, .int b] => some (.rng a b)
  | _ => none
theorem lt_alive {h : Heap} {W : List Addr} (al : ∀ a ∈ W, h.get? a ≠ none) : ∀ a ∈ W, a < h.objs.size := fun a m => by
  cases e : h.get? a with
  | none => exact absurd e (al a m)
  | some o => exact Heap.lt_size e
noncomputable def rangeC : Co u n (.type "range") := ⟨rangeF, by
  intro args r e hb A W s vs B rm le al rs
  unfold rangeF at e
  (refine Classical.byContradiction fun hnn => ?_; split at (e) <;> (refine hnn ?_; clear hnn))
  · cases (e)
    refine Rs.consC rs fun _ _ eqx a b => ?_
    clear rs; cases (eqx)
    (refine Rs.nilC b fun z342 => ?_; clear b; cases (z342)); (refine R.intC a fun _ z343 => ?_; clear a; cases (z343))
    exact call_range_1 ⟨Kp.both _ _ (Le.push _ _), .rng (fresh_seen rfl (lt_alive al))⟩
  · cases (e)
    refine Rs.consC rs fun _ _ eqx a b => ?_
    clear rs; cases (eqx)
    refine Rs.consC b fun _ _ eqx rX c => ?_
    clear b; cases (eqx); revert rX; intro b
    (refine Rs.nilC c fun z345 => ?_; clear c; cases (z345)); (refine R.intC a fun _ z346 => ?_; clear a; cases (z346)); (refine R.intC b fun _ z347 => ?_; clear b; cases (z347))
    exact call_range_2 ⟨Kp.both _ _ (Le.push _ _), .rng (fresh_seen rfl (lt_alive al))⟩
  · exact nn0 e⟩
noncomputable def divmodF : List V → Option V
  | [.int a, .int b] => if b != 0 && decide (b.natAbs < big) then some (.tup [.int (a.fdiv b), .int (a.fmod b)]) else none
  | _ => none
theorem noPylong {a b : Int} (h0 : b ≠ 0) (h : b.natAbs < big) : Builtin.divisionGoesByPylong a b = false := by
  unfold Builtin.divisionGoesByPylong
  dsimp only
  rw [Bool.and_eq_false_iff]
  left
  refine decide_eq_false ?_
  split
  · omega
  · have hl : b.natAbs.log2 < 64 := (Nat.log2_lt (by omega)).mpr (Nat.lt_of_lt_of_le h (by decide))
    omega
noncomputable def divmodC : Co u n (.builtin "divmod") := ⟨divmodF, by
  intro args r e hb A W s vs B rm le al rs
  unfold divmodF at e
  (refine Classical.byContradiction fun hnn => ?_; split at (e) <;> (refine hnn ?_; clear hnn))
  · (refine Classical.byContradiction fun hnn => ?_; split at (e) <;> (refine hnn ?_; clear hnn))
    · rename_i q
      rw [Bool.and_eq_true, bne_iff_ne, decide_eq_true_eq] at q
      cases (e)
      refine Rs.consC rs fun _ _ eqx a b => ?_
      clear rs; cases (eqx)
      refine Rs.consC b fun _ _ eqx rX c => ?_
      clear b; cases (eqx); revert rX; intro b
      (refine Rs.nilC c fun z350 => ?_; clear c; cases (z350)); (refine R.intC a fun _ z351 => ?_; clear a; cases (z351)); (refine R.intC b fun _ z352 => ?_; clear b; cases (z352))
      exact divmod_int q.1 ⟨Kp.both _ _ (Le.push _ _), .tup (vs := [_, _]) ⟨_, fresh_seen rfl (lt_alive al), rfl, 0, rfl⟩ (.cons (.int _ _) (.cons (.int _ _) .nil))⟩ (.inl (noPylong q.1 q.2))
    · exact nn0 e
  · exact nn0 e⟩
noncomputable def maxF : List V → Option V
  | [.list xs] => match intsV xs with
    | some (a :: r) => some (.int (maxL a r))
    | _ => none
  | [.int a, .int b] => some (.int (if b > a then b else a))
  | _ => none
noncomputable def maxC : Co u n (.builtin "max") := ⟨maxF, by
  intro args r e hb A W s vs B rm le al rs
  unfold maxF at e
  (refine Classical.byContradiction fun hnn => ?_; split at (e) <;> (refine hnn ?_; clear hnn))
  · (refine Classical.byContradiction fun hnn => ?_; split at (e) <;> (refine hnn ?_; clear hnn))
    · rename_i xs a rr hi
      cases (e)
      refine Rs.consC rs fun _ _ eqx x b => ?_
      clear rs; cases (eqx)
      (refine Rs.nilC b fun z360 => ?_; clear b; cases (z360))
      refine R.listC x fun us l eqx hl hr => ?_
      clear x; cases (eqx)
      have ia := intsV_are hi hr
      refine sE ia.allInts.items fun ys e => ?_
      have hns : a :: rr = ys.toList.map (·.1) := by rw [← ia.numsOf, ← nums_intItems, ← e]
      have hsz : 0 < ys.size := by
        have h3 : 0 < (a :: rr).length := Nat.succ_pos _
        rw [hns, List.length_map, Array.length_toList] at h3; exact h3
      have hl' := IsList.of_hide hl
      rw [e] at hl'
      refine max_intList rm.handled hl' hsz fun v h' tk hv k => ⟨Kp.both _ _ k, ?_⟩
      refine sE (intItems_at hv) fun t z37 => ?_; (first | subst z37 | cases (z37))
      refine sA (argBest_gt (numAt ys) (ys.size - 1)) fun h1 h2 => ?_
      have m1 : numAt ys (argBest (fun i j => decide (numAt ys i > numAt ys j)) (ys.size - 1)) ∈ a :: rr := by
        rw [hns, numAt_eq]; exact getD_mem (by rw [List.length_map, Array.length_toList]; omega)
      have m2 : ∀ c ∈ a :: rr, c ≤ numAt ys (argBest (fun i j => decide (numAt ys i > numAt ys j)) (ys.size - 1)) := fun c hc => by
        rw [hns] at hc
        refine sEA (mem_getD hc) fun j hj z38 => ?_; (first | subst z38 | cases (z38))
        rw [List.length_map, Array.length_toList] at hj
        rw [← numAt_eq]; exact h2 j (by omega)
      have g := maxL_ge rr a
      have e1 : maxL a rr = numAt ys (argBest (fun i j => decide (numAt ys i > numAt ys j)) (ys.size - 1)) := by
        refine Int.le_antisymm (m2 _ ?_) ?_
        · rcases maxL_mem rr a with q | q
          · rw [q]; exact List.mem_cons_self
          · exact List.mem_cons_of_mem _ q
        · rcases List.mem_cons.mp m1 with q | q
          · rw [q]; exact g.1
          · exact g.2 _ q
      rw [e1]; exact .int _ _
    · exact nn0 e
  · cases (e)
    refine Rs.consC rs fun _ _ eqx a b => ?_
    clear rs; cases (eqx)
    refine Rs.consC b fun _ _ eqx rX c => ?_
    clear b; cases (eqx); revert rX; intro b
    (refine Rs.nilC c fun z363 => ?_; clear c; cases (z363)); (refine R.intC a fun _ z364 => ?_; clear a; cases (z364)); (refine R.intC b fun _ z365 => ?_; clear b; cases (z365))
    refine max_two_ints rm.handled fun h' tk k => ⟨Kp.both _ _ k, ?_⟩
    split
    · exact .int _ _
    · exact .int _ _
  · exact nn0 e⟩
noncomputable def sortedF : List V → Option V
  | [.list xs] => match intsV xs with
    | some ns => if decide (xs.length < 64) then some (.list ((sortL ns).map .int)) else none
    | _ => none
  | _ => none
noncomputable def sortedC : Co u n (.builtin "sorted") := ⟨sortedF, by
  intro args r e hb A W s vs B rm le al rs
  unfold sortedF at e
  (refine Classical.byContradiction fun hnn => ?_; split at (e) <;> (refine hnn ?_; clear hnn))
  · (refine Classical.byContradiction fun hnn => ?_; split at (e) <;> (refine hnn ?_; clear hnn))
    · rename_i xs ns hi
      (refine Classical.byContradiction fun hnn => ?_; split at (e) <;> (refine hnn ?_; clear hnn))
      · rename_i q
        cases (e)
        have q := of_decide_eq_true q
        refine Rs.consC rs fun _ _ eqx x b => ?_
        clear rs; cases (eqx)
        (refine Rs.nilC b fun z368 => ?_; clear b; cases (z368))
        refine R.listC x fun us l eqx hl hr => ?_
        clear x; cases (eqx)
        have e := hr.length
        refine sorted_ints (IsList.of_hide hl) (intsV_are hi hr) (by omega) fun out ns' a1 a2 a3 => ⟨Kp.heap _ fun b o e => sortedAll_old e, ?_⟩
        refine sE (sortedAll_at s.heap us out) fun e' he => ?_
        rw [← sortL_eq a2 a3]
        refine .list (vs := out.toList) ⟨_, hideAll_get W he (fun m => ?_), rfl, e', ?_⟩ (are_rs a1)
        · exact absurd (lt_alive al _ m) (Nat.not_lt.mpr (Nat.le_succ _))
        · rw [Array.toArray_toList]
      · exact nn0 e
    · exact nn0 e
  · exact nn0 e⟩
end
noncomputable def itxt (n : Nat) : Str :=
  if n < 10 then ⟨#[48 + n]⟩ else if n < 100 then ⟨#[48 + n / 10, 48 + n % 10]⟩ else ⟨#[48 + n / 100, 48 + n / 10 % 10, 48 + n % 10]⟩
theorem itxt_all : ((List.range 300).all fun n => Str.ofString (toString (n : Int)) == itxt n) = true := by decide +kernel
theorem itxt_eq {i : Int} (h0 : 0 ≤ i) (h1 : i < 300) : Str.ofString (toString i) = itxt i.toNat := by
  have := List.all_eq_true.mp itxt_all i.toNat (List.mem_range.mpr (by omega))
  rw [beq_iff_eq, Int.toNat_of_nonneg h0] at this
  exact this
noncomputable def strsV : List V → Option (List Str)
  | [] => some []
  | .str x :: r => (strsV r).map (x :: ·)
  | _ :: _ => none
theorem strsV_are {h : Heap} {xs : List V} : ∀ {vs : List Value} {ns : List Str}, strsV xs = some ns → Rs h xs vs → StrsAre vs ns := by
  induction xs with
  | nil => intro vs ns e r; (refine inj1 e ?_; clear e); (refine Rs.nilC r fun z373 => ?_; clear r; cases (z373)); exact .nil
  | cons x xs ih =>
    intro vs ns e r
    refine Rs.consC r fun _ _ eqx a b => ?_
    clear r; cases (eqx)
    cases a with
    | str i t =>
      have e' : (strsV xs).map (i :: ·) = some _ := e
      refine sEA (Option.map_eq_some_iff.mp e') fun ms e1 z39 => ?_; (first | subst z39 | cases (z39))
      exact .cons i t (ih e1 b)
    | _ => exact nn0 e
section
variable {u : U} {n : Nat} {C : Nm}
noncomputable def strF : List V → Option V
  | [.int i] => if decide (0 ≤ i) && decide (i < 300) then some (.str (itxt i.toNat)) else none
  | _ => none
noncomputable def strC : Co u n (.type "str") := ⟨strF, by
  intro args r e hb A W s vs B rm le al rs
  unfold strF at e
  (refine Classical.byContradiction fun hnn => ?_; split at (e) <;> (refine hnn ?_; clear hnn))
  · (refine Classical.byContradiction fun hnn => ?_; split at (e) <;> (refine hnn ?_; clear hnn))
    · rename_i i q
      rw [Bool.and_eq_true, decide_eq_true_eq, decide_eq_true_eq] at q
      cases (e)
      refine Rs.consC rs fun _ _ eqx a b => ?_
      clear rs; cases (eqx)
      (refine Rs.nilC b fun z376 => ?_; clear b; cases (z376)); (refine R.intC a fun _ z377 => ?_; clear a; cases (z377))
      refine PySem.P.str_of_int ?_ ⟨Kp.tok .., ?_⟩
      · have h : i.natAbs < 2 ^ 20 := by omega
        rcases Nat.eq_zero_or_pos i.natAbs with z | z
        · rw [z]; decide
        · have : i.natAbs.log2 < 20 := (Nat.log2_lt (by omega)).mpr h
          omega
      · rw [itxt_eq q.1 q.2]; exact .str _ _
    · exact nn0 e
  · exact nn0 e⟩
noncomputable def joinF : List V → Option V
  | [.str x, .list xs] => match strsV xs with
    | some ys => if decide ((ys.map (·.length)).sum + ys.length * x.length ≤ 1048576) then some (.str (Txt.join x ys)) else none
    | none => none
  | _ => none
noncomputable def joinC : Co u n (.builtin "str.join") := ⟨joinF, by
  intro args r e hb A W s vs B rm le al rs
  unfold joinF at e
  (refine Classical.byContradiction fun hnn => ?_; split at (e) <;> (refine hnn ?_; clear hnn))
  · (refine Classical.byContradiction fun hnn => ?_; split at (e) <;> (refine hnn ?_; clear hnn))
    · rename_i x xs ys hy
      (refine Classical.byContradiction fun hnn => ?_; split at (e) <;> (refine hnn ?_; clear hnn))
      · rename_i q
        cases (e)
        have q := of_decide_eq_true q
        refine Rs.consC rs fun _ _ eqx a b => ?_
        clear rs; cases (eqx)
        refine Rs.consC b fun _ _ eqx rX c => ?_
        clear b; cases (eqx); revert rX; intro b
        (refine Rs.nilC c fun z381 => ?_; clear c; cases (z381)); (refine R.strC a fun _ z382 => ?_; clear a; cases (z382))
        refine R.listC b fun us l eqx hl hr => ?_
        clear b; cases (eqx)
        exact join_list (IsList.of_hide hl) (by simpa using strsV_are hy hr) (by omega) fun t k => ⟨Kp.tok .., .str _ _⟩
      · exact nn0 e
    · exact nn0 e
  · exact nn0 e⟩
end
namespace XE
variable {u : U} {n : Nat} {C : Nm}
noncomputable def join (a : XE u n C) (es : List (XA u n C)) (apos p : Pos) (hb : ∀ env, attributeBase a.e "join" env (eval a.e env) = eval a.e env) (hl : es.length < 29) (hline : (apos.endLine == p.line) = true) : XE u n C where
  e := .Call (.Attribute a.e "join" apos) (exprs es) [] p
  den σ := match a.den σ with
    | some (.str x, f) => match denL es σ with
      | some (vs, g) => match joinF (.str x :: vs) with
        | some r => some (r, g)
        | .none => .none
      | .none => .none
    | _ => .none
  snd := by
    intro σ v bb h d s cs D I
    (refine Classical.byContradiction fun hnn => ?_; split at (h) <;> (refine hnn ?_; clear hnn))
    · rename_i x f hx
      (refine Classical.byContradiction fun hnn => ?_; split at (h) <;> (refine hnn ?_; clear hnn))
      · rename_i vs g hv
        (refine Classical.byContradiction fun hnn => ?_; split at (h) <;> (refine hnn ?_; clear hnn))
        · rename_i r hr
          cases (h)
          refine meth_gen (hb _) hl hline (ex (a.snd σ _ f hx d s cs D I) fun ov s₁ q => fun pl => ?_)
          have I1 := I.keeps q.1.le
          have q2 := q.2
          refine R.strC q2 fun t eqx => ?_
          clear q2; cases (eqx)
          refine getMethod_builtin (T := "str") (id := "str.join") (typeIs_str _ x t) PySem.F.plainAttrs_str PySem.F.slot_str_join PySem.F.type_str_join (fun a e => Value.noConfusion e) ?_
          refine callWith_ok hv Keepable.bi D I1 fun us s₂ k I2 rs => ?_
          exact ex ((joinC (u := u) (n := n)).ok _ _ hr d.hb d.A _ s₂ (.str x t :: us) D.base D.room (I2.leB D) (I2.alive' D _) (.cons (.str x t) rs)) fun _ _ z => ⟨(q.1.trans k).trans z.1, z.2⟩
        · exact nn0 h
      · exact nn0 h
    · exact nn0 h
end XE
noncomputable def putF (name : Str) (v : V) : List (Str × V) → List (Str × V)
  | [] => [(name, v)]
  | (x, a) :: r => if x == name then (x, v) :: r else (x, a) :: putF name v r
theorem Rf.noRef {h : Heap} : ∀ {fs : List (Str × V)} {es : List DictEntry}, Rf h fs es → es.any (·.refKey) = false
  | _, _, .nil => rfl
  | _, _, .cons a b => by rw [List.any_cons, Rf.noRef b]; rfl
theorem Rf.find {h : Heap} (name : Str) : ∀ {fs : List (Str × V)} {es : List DictEntry}, Rf h fs es →
    (∀ av, fs.lookup name = some av → ∃ e, es.find? (·.key.isStr name) = some e ∧ R h av e.val) ∧ (fs.lookup name = none → es.find? (·.key.isStr name) = none)
  | _, _, .nil => ⟨(fun _ e => by exact nn0 e), fun _ => rfl⟩
  | _, _, .cons (x := x) (t := t) (k := k) (v := v) (av := av) (fs := fs) (es := es) a b => by
    have ih := Rf.find name b
    have hk : (DictEntry.mk k (.str x t) v).key.isStr name = (x == name) := rfl
    rw [List.find?_cons, List.lookup_cons, hk]
    cases q : name == x with
    | true =>
      have e : name = x := beq_iff_eq.mp q
      have q' : (x == name) = true := by rw [e]; simp
      rw [q']
      exact ⟨(fun av' z => by cases (z); exact ⟨_, rfl, a⟩), (fun z => by exact nn1 z)⟩
    | false =>
      have q' : (x == name) = false := by
        rw [beq_eq_false_iff_ne] at q ⊢; exact Ne.symm q
      rw [q']
      exact ih
theorem Rf.getL {h : Heap} {name : Str} {fs : List (Str × V)} {es : List DictEntry} (r : Rf h fs es) :
    (∀ av, fs.lookup name = some av → ∃ v, PySem.W.getL name es = some (some v) ∧ R h av v) ∧ (fs.lookup name = none → PySem.W.getL name es = some none) := by
  have f := r.find name
  unfold PySem.W.getL
  refine ⟨fun av e => ?_, fun e => ?_⟩
  · refine sEA (f.1 av e) fun en h1 h2 => ?_
    rw [h1]; exact ⟨_, rfl, h2⟩
  · rw [f.2 e, r.noRef]; rfl
theorem Rf.put {h : Heap} {name : Str} {hs : Int} {tk : Tok} {av : V} {v : Value} (a : R h av v) : ∀ {fs : List (Str × V)} {es : List DictEntry}, Rf h fs es → Rf h (putF name av fs) (putL name hs (.str name tk) v es)
  | _, _, .nil => .cons a .nil
  | _, _, .cons (x := x) (t := t) (k := k) (v := w) (av := aw) (fs := fs) (es := es) b c => by
    unfold putF putL
    have hk : (DictEntry.mk k (.str x t) w).key.isStr name = (x == name) := rfl
    rw [hk]
    cases q : x == name with
    | true => simp only [if_true]; exact .cons a c
    | false => simp only [Bool.false_eq_true, if_false]; exact .cons b (Rf.put a c)
theorem Rf.len {h : Heap} : ∀ {fs : List (Str × V)} {es : List DictEntry}, Rf h fs es → fs.length = es.length
  | _, _, .nil => rfl
  | _, _, .cons _ b => by rw [List.length_cons, List.length_cons, Rf.len b]
theorem putF_len (name : Str) (v : V) : ∀ fs : List (Str × V), (putF name v fs).length ≤ fs.length + 1
  | [] => Nat.le_refl _
  | (x, a) :: r => by
    unfold putF
    split
    · exact Nat.le_succ _
    · exact Nat.succ_le_succ (putF_len name v r)
noncomputable def allN (hb h : Heap) (L : Addr) : List (Addr × Obj) := (List.range h.objs.size).filterMap fun a => if a = L then none else if (hb.get? a).isSome then none else (h.get? a).map fun o => (a, o)
theorem mem_allN {hb h : Heap} {L a : Addr} {o : Obj} : (a, o) ∈ allN hb h L ↔ a ≠ L ∧ hb.get? a = none ∧ h.get? a = some o := by
  unfold allN
  rw [List.mem_filterMap]
  constructor
  · rintro ⟨b, _, e⟩
    (refine Classical.byContradiction fun hnn => ?_; split at (e) <;> (refine hnn ?_; clear hnn))
    · exact nn0 e
    · rename_i ne
      (refine Classical.byContradiction fun hnn => ?_; split at (e) <;> (refine hnn ?_; clear hnn))
      · exact nn0 e
      · rename_i nb
        refine sEA (Option.map_eq_some_iff.mp e) fun o' h1 h2 => ?_
        cases (h2)
        refine ⟨ne, ?_, h1⟩
        cases q : hb.get? a with
        | none => rfl
        | some z => rw [q] at nb; exact absurd rfl nb
  · rintro ⟨ne, nb, e⟩
    refine ⟨a, List.mem_range.mpr (Heap.lt_size e), ?_⟩
    rw [if_neg ne, nb, e]; rfl
theorem allN_pw (hb h : Heap) (L : Addr) : (allN hb h L).Pairwise fun p q => p.1 ≠ q.1 := by
  unfold allN
  rw [List.pairwise_filterMap]
  refine List.Pairwise.imp ?_ (List.nodup_range (n := h.objs.size))
  intro a b ne p e1 q e2 z
  have k1 : p.1 = a := by
    (refine Classical.byContradiction fun hnn => ?_; split at (e1) <;> (refine hnn ?_; clear hnn))
    · exact nn0 e1
    · (refine Classical.byContradiction fun hnn => ?_; split at (e1) <;> (refine hnn ?_; clear hnn))
      · exact nn0 e1
      · refine sEA (Option.map_eq_some_iff.mp e1) fun o _ z40 => ?_; (first | subst z40 | cases (z40)); rfl
  have k2 : q.1 = b := by
    (refine Classical.byContradiction fun hnn => ?_; split at (e2) <;> (refine hnn ?_; clear hnn))
    · exact nn0 e2
    · (refine Classical.byContradiction fun hnn => ?_; split at (e2) <;> (refine hnn ?_; clear hnn))
      · exact nn0 e2
      · refine sEA (Option.map_eq_some_iff.mp e2) fun o _ z41 => ?_; (first | subst z41 | cases (z41)); rfl
  exact ne (k1.symm.trans (z.trans k2))
theorem news_all {hb h : Heap} {L : Addr} : News hb L h (allN hb h L) := fun p m => by
  obtain ⟨a, o⟩ := p
  refine sAA (mem_allN.mp m) fun h1 h2 h3 => ?_
  exact ⟨h3, h1, h2⟩
theorem upd_of {d : Addr} {o o' : Obj} : ∀ {l : List (Addr × Obj)}, l.Pairwise (fun p q => p.1 ≠ q.1) → (d, o) ∈ l → ∃ l', Upd d o o' l l' ∧ (∀ p ∈ l, p.1 ≠ d → p ∈ l') ∧ (d, o') ∈ l'
  | p :: l, pw, m => by
    rw [List.pairwise_cons] at pw
    rcases List.mem_cons.mp m with rfl | m
    · exact ⟨_, .head fun q mq e => pw.1 q mq e.symm, fun q mq ne => (List.mem_cons.mp mq).elim (fun e => absurd (by rw [e]) ne) (List.mem_cons_of_mem _), List.mem_cons_self⟩
    · obtain ⟨l', U, k, h⟩ := upd_of pw.2 m
      refine ⟨p :: l', .tail (pw.1 _ m) U, fun q mq ne => ?_, List.mem_cons_of_mem _ h⟩
      rcases List.mem_cons.mp mq with rfl | mq
      · exact List.mem_cons_self
      · exact List.mem_cons_of_mem _ (k q mq ne)
theorem setAttr_raw {prog : Program} {w : World} {A : Around} {E : Value → Shared → Prop} {s : Shared} {K : Frag} {hb : Heap} {L x dx C : Addr} {m : Str → Option Value} {es : List DictEntry} {n : Nat} {name : Str} {v : Value} {Q : Unit → Shared → Prop}
    (X : K.In hb) (le : Le hb s.heap) (ab : hb.objs.size ≤ L) (hn : s.heap.Ns L m) (hx : s.heap.get? x = some ⟨.ref C, some dx, .plain, #[]⟩) (hd : s.heap.get? dx = some (dictOf es n)) (hdL : dx ≠ L) (hdb : hb.get? dx = none)
    (h1 : findIn K (.ref C) "__setattr__" = some (some (.builtin "object.__setattr__"))) (h2 : plainOver K C = true) (h3 : takerIn K C name = some none) (h4 : hasDictIn K C = true) (h5 : (PySem.W.getL name es).isSome = true)
    (h6 : (putL name (PyData.keyHash w.params name) (.str name (s.toks + 1)) v es).length ≤ 1000)
    (h : ∀ h', h'.Ns L m → (∀ b o, b ≠ L → b ≠ dx → s.heap.get? b = some o → h'.get? b = some o) → h'.get? dx = some (dictOf (putL name (PyData.keyHash w.params name) (.str name (s.toks + 1)) v es) (putN name es n)) → Q () { s with heap := h', toks := s.toks + 2 }) :
    wpAny (model prog w) A (setAttr (.ref x) name v) Q E s := by
  refine sEAA (upd_of (o' := dictOf (putL name (PyData.keyHash w.params name) (.str name (s.toks + 1)) v es) (putN name es n)) (allN_pw hb s.heap L) (mem_allN.mpr ⟨hdL, hdb, hd⟩)) fun l' U k hm => ?_
  refine set_dict (h₀ := hb) (L := L) (m := m) ⟨hn, le, ab⟩ X news_all ⟨hx, rfl, rfl, hd⟩ rfl h1 h2 h3 h4 h5 rfl U h6 fun h' F' N' => ?_
  refine h h' F'.ns (fun b o nL nd e => ?_) (N' _ hm).1
  cases q : hb.get? b with
  | some z => rw [le b z q] at e; cases (e); exact F'.keep b _ q
  | none => exact (N' _ (k _ (mem_allN.mpr ⟨nL, q, e⟩) nd)).1
noncomputable def notRaw : V → Bool
  | .raw _ => false
  | _ => true
theorem handed_of {h : Heap} {a : V} {v : Value} (r : R h a v) (n : notRaw a = true) : handedIn v = true := by
  cases (r) <;> first | rfl | exact nn2 n
structure ClsOK (u : U) (C : Addr) : Prop where
  ga : findIn u.K (.ref C) "__getattribute__" = some (some (.builtin "object.__getattribute__"))
  g2 : findIn u.K (.ref C) "__getattr__" = some none
  sa : findIn u.K (.ref C) "__setattr__" = some (some (.builtin "object.__setattr__"))
  po : plainOver u.K C = true
  hd : hasDictIn u.K C = true
section
variable {u : U} {n : Nat} {C : Nm}
theorem inst_at {h : Heap} {W : List Addr} {c : Addr} {fs : List (Str × V)} {v : Value} (r : R (hideAll h W) (.inst c fs) v) : ∃ x dx es n, v = .ref x ∧ InstAt h x ⟨.ref c, some dx, .plain, #[]⟩ c (some (dictOf es n)) ∧ Rf (hideAll h W) fs es := by
  refine R.instC r fun _ _ _ _ eqx e1 e2 rf => ?_
  clear r; cases (eqx)
  exact ⟨_, _, _, _, rfl, ⟨of_hideAll W e1, rfl, rfl, of_hideAll W e2⟩, rf⟩
end
namespace XE
variable {u : U} {n : Nat} {C : Nm}
noncomputable def attr (a : XE u n C) (c : Addr) (name : Str) (p : Pos) (K : ClsOK u c) {at_ : Option Value} (h1 : findIn u.K (.ref c) name = some at_) (h2 : noGet u.K at_ = true)
    (hev : ∀ env, eval (.Attribute a.e name p) env = (do let o ← eval a.e env; standAt p.atName; let r ← holding [o] (getAttr o name true); letTemporaryGo a.e o r; pure r)) : XE u n C where
  e := .Attribute a.e name p
  den σ := match a.den σ with
    | some (.inst c' fs, f) => if c' = c then match fs.lookup name with
      | some v => if notRaw v then some (v, f) else .none
      | .none => .none else .none
    | _ => .none
  snd := by
    intro σ v b h d s cs D I
    (refine Classical.byContradiction fun hnn => ?_; split at (h) <;> (refine hnn ?_; clear hnn))
    · rename_i c' fs f ha
      (refine Classical.byContradiction fun hnn => ?_; split at (h) <;> (refine hnn ?_; clear hnn))
      · rename_i hc
        subst hc
        (refine Classical.byContradiction fun hnn => ?_; split at (h) <;> (refine hnn ?_; clear hnn))
        · rename_i v' hv
          (refine Classical.byContradiction fun hnn => ?_; split at (h) <;> (refine hnn ?_; clear hnn))
          · rename_i hr
            cases (h)
            refine Attribute_any_ (ex (a.snd σ _ _ ha d s cs D I) fun o s₁ q => ?_) (hev _)
            have I1 := I.keeps q.1.le
            obtain ⟨x, dx, es, nn, rfl, ia, rf⟩ := inst_at q.2
            refine sEA ((rf.getL (name := name)).1 _ hv) fun w hw hrw => ?_
            exact get_value (D.base.X.keeps (I1.leB D).le) ia K.ga (findObj_own K.hd h1 h2 hw) (handed_of hrw hr) ⟨q.1.trans (Kp.tok ..), hrw⟩
          · exact nn0 h
        · exact nn0 h
      · exact nn0 h
    · exact nn0 h
noncomputable def meth (a : XE u n C) (c : Addr) (name : Str) (f : Addr) (co : Co u n (.ref f)) (es : List (XA u n C)) (apos p : Pos) (K : ClsOK u c) (h1 : findIn u.K (.ref c) name = some (some (.ref f))) (h2 : typeIn u.K (.ref f) = some (.type "function")) (hk : Keepable u (.ref f))
    (hb : ∀ env, attributeBase a.e name env (eval a.e env) = eval a.e env) (hl : es.length < 29) (hline : (apos.endLine == p.line) = true) : XE u n C where
  e := .Call (.Attribute a.e name apos) (exprs es) [] p
  den σ := match a.den σ with
    | some (.inst c' fs, f) => if c' = c then match fs.lookup name with
      | .none => match denL es σ with
        | some (vs, g) => match co.den (.inst c' fs :: vs) with
          | some r => some (r, f || g)
          | .none => .none
        | .none => .none
      | some _ => .none else .none
    | _ => .none
  snd := by
    intro σ v b h d s cs D I
    (refine Classical.byContradiction fun hnn => ?_; split at (h) <;> (refine hnn ?_; clear hnn))
    · rename_i c' fs fl ha
      (refine Classical.byContradiction fun hnn => ?_; split at (h) <;> (refine hnn ?_; clear hnn))
      · rename_i hc
        subst hc
        (refine Classical.byContradiction fun hnn => ?_; split at (h) <;> (refine hnn ?_; clear hnn))
        · rename_i hv
          (refine Classical.byContradiction fun hnn => ?_; split at (h) <;> (refine hnn ?_; clear hnn))
          · rename_i vs g hvs
            (refine Classical.byContradiction fun hnn => ?_; split at (h) <;> (refine hnn ?_; clear hnn))
            · rename_i r hr
              cases (h)
              refine meth_gen (hb _) hl hline (ex (a.snd σ _ fl ha d s cs D I) fun ov s₁ q => fun pl => ?_)
              have I1 := I.keeps q.1.le
              have qr := q.2
              obtain ⟨x, dx, ee, nn, rfl, ia, rf⟩ := inst_at qr
              have hn := (rf.getL (name := name)).2 hv
              refine method_fn (D.base.X.keeps (I1.leB D).le) ia K.ga K.g2 h1 h2 (by show (lookIn name (dictOf ee nn)).map _ = _; rw [lookIn_dict, hn]; rfl) ?_
              refine callWith_ok hvs hk D I1 fun us s₂ k I2 rs => ?_
              have r1 := hid_up (C := C) (cs := cs) (b' := fl || g) k.le (by intro z; rw [z]; rfl) qr
              have r2 := rs.mono (hid_le (C := C) (cs := cs) (b' := fl || g) s₂.heap (by intro z; rw [z]; exact Bool.or_true _))
              exact ex (co.ok _ _ hr d.hb d.A _ s₂ (.ref x :: us) D.base D.room (I2.leB D) (I2.alive' D _) (.cons r1 r2)) fun _ _ z => ⟨(q.1.trans k).trans z.1, z.2⟩
            · exact nn0 h
          · exact nn0 h
        · exact nn0 h
      · exact nn0 h
    · exact nn0 h
end XE
section
variable {u : U} {n : Nat} {C : Nm}
theorem slotName {d : Dy} {σ : List SV} {s : Shared} {cs : List CS} (D : DOk u n C d) (I : Inv C d σ s.heap cs) {i : Nat} {x : Str} {k : NameKind} {c : CS} {v : Value} {p : Pos} (hx : C.slots[i]? = some (x, k)) (hc : cs[i]? = some c) (hv : c.value = some v) {Q : Value → Shared → Prop} {E : Value → Shared → Prop} (h : Q v s) :
    wpAny (model u.prog u.w) d.A (eval (.Name x p) d.env) Q E s := by
  have hm : (x, k) ∈ C.slots := List.mem_of_getElem? hx
  refine sEA I.ns fun m hns hst => ?_
  have hs := hst i (x, k) _ hx hc
  have hk := D.env.kinds _ hm
  have hnc := D.env.noClass _ hm
  refine wpAny_Name ?_ hnc.2
  rcases D.env.three _ hm with q | q | q
  · cases (q)
    exact wpAny_loadName_local (m := m) (v := v) D.env.kind (hk.resolve_right fun z => by cases z.1) hns (hs.trans hv) h
  · cases (q)
    refine sEA hs fun ca h1 h2 => ?_; try clear hs
    rw [hv] at h2
    exact wpAny_loadName_cell D.env.kind (hk.resolve_right fun z => by cases z.1) h1 h2 h
  · cases (q)
    refine sEA hs fun ca h1 h2 => ?_; try clear hs
    rw [hv] at h2
    rcases hk with hk | ⟨_, hk⟩
    · exact wpAny_loadName_free D.env.kind hk h1 h2 h hnc.1
    · exact wpAny_loadName_cell D.env.kind hk h1 h2 h
theorem Inv.slotAt {d : Dy} {σ : List SV} {h : Heap} {cs : List CS} (I : Inv C d σ h cs) {i : Nat} {sv : SV} (hi : σ[i]? = some sv) : ∃ c, cs[i]? = some c ∧ SR h (hideAll h (hid C d cs false)) sv c := by
  have hlt : i < σ.length := by
    rcases Nat.lt_or_ge i σ.length with z | z
    · exact z
    · rw [List.getElem?_eq_none z] at hi; exact nn0 hi
  refine sE (get_of_len I.lenC (show i < C.slots.length from I.lenS ▸ hlt)) fun c hc => ?_
  exact ⟨c, hc, I.sr i _ c hi hc⟩
theorem Inv.selfSet {d : Dy} {σ : List SV} {h h' : Heap} {cs : List CS} {i : Nat} {x dx c : Addr} {fs fs' : List (Str × V)} {es' : List DictEntry} {n' : Nat} {m : Str → Option Value} (D : DOk u n C d) (I : Inv C d σ h cs) (hc : cs[i]? = some (.self x dx)) (hi : σ[i]? = some (.self c fs))
    (hm : h.Ns d.env.locals m) (hst : ∀ (i : Nat) (p : Str × NameKind) (c : CS), C.slots[i]? = some p → cs[i]? = some c → Stored h d.env m p c.value)
    (hn : h'.Ns d.env.locals m) (k : ∀ b o, b ≠ d.env.locals → b ≠ dx → h.get? b = some o → h'.get? b = some o) (e' : h'.get? dx = some (dictOf es' n')) (r : Rf (hideAll h (hid C d cs false)) fs' es') :
    Inv C d (σ.set i (.self c fs')) h' cs ∧ Le (hideAll h (hid C d cs false)) (hideAll h' (hid C d cs false)) := by
  have hax : x ∈ adrs cs := List.mem_flatMap.mpr ⟨_, List.mem_of_getElem? hc, List.mem_cons_self⟩
  have had : dx ∈ adrs cs := List.mem_flatMap.mpr ⟨_, List.mem_of_getElem? hc, List.mem_cons_of_mem _ (List.mem_singleton.mpr rfl)⟩
  have hwx : x ∈ wr C d cs := List.mem_cons_of_mem _ (List.mem_append_right _ hax)
  have hwd : dx ∈ wr C d cs := List.mem_cons_of_mem _ (List.mem_append_right _ had)
  have up : Le (hideAll h (d.W ++ wr C d cs)) (hideAll h' (d.W ++ wr C d cs)) := Le.hides fun b o e nn => ⟨k b o (fun q => nn (q ▸ List.mem_append_right _ L_wr)) (fun q => nn (q ▸ List.mem_append_right _ hwd)) e, nn⟩
  refine ⟨⟨⟨m, hn, fun j q cc e1 e2 => ?_⟩, by rw [List.length_set]; exact I.lenS, I.lenC, ?_, fun b o e => k b o (fun q => by rw [q, I.fresh _ L_wr] at e; exact nn0 e) (fun q => by rw [q, I.fresh _ hwd] at e; exact nn0 e) (I.keep b o e), I.fresh, I.LC, I.CA, I.own, I.slf⟩, up⟩
  · have z := hst j q cc e1 e2
    unfold Stored at z ⊢
    split
    · rename_i hp; rw [hp] at z; exact z
    · rename_i hp
      have z : ∃ ca, d.env.cells.lookup q.1 = some ca ∧ h.IsCell ca cc.value := by
        revert z; split
        · rename_i q; exact fun _ => absurd q hp
        · exact id
      refine sEAEA z fun ca h1 o ho hd => ?_; try clear z
      refine ⟨ca, h1, o, k _ _ (fun q => ?_) (fun q => ?_) ho, hd⟩
      · refine sEEEAA hm fun o' es ep ho' hd' _ => ?_; try clear hm
        rw [q, ho'] at ho; cases (ho); rw [hd'] at hd; cases (hd)
      · have r1 := I.sr i _ _ hi hc
        refine SR.selfC r1 fun _ _ _ _ eqx e1 e2 _ => ?_
        clear r1; cases (eqx)
        rw [q, e2] at ho; cases (ho); cases (hd)
  · intro j sv cc e1 e2
    by_cases q : i = j
    · subst q
      rw [hc] at e2; (refine inj1 e2 ?_; clear e2)
      rcases set_get e1 with ⟨_, rfl⟩ | ⟨ne, _⟩
      · have r1 := I.sr i _ _ hi hc
        refine SR.selfC r1 fun _ _ _ _ eqx g1 g2 _ => ?_
        clear r1; cases (eqx)
        refine .self (k _ _ (fun q => ?_) (fun q => ?_) g1) e' (r.mono up)
        · exact I.LC (q ▸ List.mem_append_right _ hax)
        · rw [q, g2] at g1; cases (g1)
      · exact absurd rfl ne
    · rcases set_get e1 with ⟨eq, _⟩ | ⟨_, e1⟩
      · exact absurd eq q
      · have r1 := I.sr j sv cc e1 e2
        have cm : cc ∈ cs := List.mem_of_getElem? e2
        have off : ∀ y ∈ cc.adr, y ≠ d.env.locals ∧ y ≠ dx := fun y my => ⟨fun e => I.LC (e ▸ List.mem_append_right _ (List.mem_flatMap.mpr ⟨_, cm, my⟩)), fun e => I.own j i cc _ (Ne.symm q) e2 hc y my (e ▸ List.mem_cons_of_mem _ (List.mem_singleton.mpr rfl))⟩
        cases r1 with
        | unset => exact .unset
        | val r => exact .val (r.mono up)
        | own p r =>
          refine sEA p fun o e z => ?_; try clear p
          have w := off _ (List.mem_singleton.mpr rfl)
          exact .own ⟨o, k _ _ w.1 w.2 e, z⟩ (r.mono up)
        | self g1 g2 r =>
          have w1 := off _ List.mem_cons_self
          have w2 := off _ (List.mem_cons_of_mem _ (List.mem_singleton.mpr rfl))
          exact .self (k _ _ w1.1 w1.2 g1) (k _ _ w2.1 w2.2 g2) (r.mono up)
end
namespace XE
variable {u : U} {n : Nat} {C : Nm}
noncomputable def selfAttr (i : Nat) (x : Str) (k : NameKind) (hx : C.slots[i]? = some (x, k)) (c : Addr) (name : Str) (np p : Pos) (K : ClsOK u c) {at_ : Option Value} (h1 : findIn u.K (.ref c) name = some at_) (h2 : noGet u.K at_ = true) : XE u n C where
  e := .Attribute (.Name x np) name p
  den σ := match σ[i]? with
    | some (.self c' fs) => if c' = c then match fs.lookup name with
      | some v => if notRaw v then some (v, false) else .none
      | .none => .none else .none
    | _ => .none
  snd := by
    intro σ v b h d s cs D I
    (refine Classical.byContradiction fun hnn => ?_; split at (h) <;> (refine hnn ?_; clear hnn))
    · rename_i c' fs hi
      (refine Classical.byContradiction fun hnn => ?_; split at (h) <;> (refine hnn ?_; clear hnn))
      · rename_i hc
        subst hc
        (refine Classical.byContradiction fun hnn => ?_; split at (h) <;> (refine hnn ?_; clear hnn))
        · rename_i v' hv
          (refine Classical.byContradiction fun hnn => ?_; split at (h) <;> (refine hnn ?_; clear hnn))
          · rename_i hr
            cases (h)
            refine sEA (I.slotAt hi) fun cc hcc sr => ?_
            refine SR.selfC sr fun ax dx es nn eqx e1 e2 rf => ?_
            clear sr; cases (eqx)
            refine Attribute_any_ (slotName D I hx hcc rfl ?_)
            refine sEA ((rf.getL (name := name)).1 _ hv) fun w hw hrw => ?_
            have ia : InstAt s.heap ax ⟨.ref c', some dx, .plain, #[]⟩ c' (some (dictOf es nn)) := ⟨e1, rfl, rfl, e2⟩
            exact get_value (D.base.X.keeps (I.leB D).le) ia K.ga (findObj_own K.hd h1 h2 hw) (handed_of hrw hr) ⟨Kp.tok .., hrw⟩
          · exact nn0 h
        · exact nn0 h
      · exact nn0 h
    · exact nn0 h
end XE
namespace XG
variable {u : U} {n : Nat} {C : Nm}
noncomputable def selfAttr (i : Nat) (x : Str) (k : NameKind) (hx : C.slots[i]? = some (x, k)) (c : Addr) (name : Str) (np p : Pos) (K : ClsOK u c) (h1 : takerIn u.K c name = some none) : XG u n C where
  t := .Attribute (.Name x np) name p
  den v σ := match σ[i]? with
    | some (.self c' fs) => if c' = c ∧ fs.length < 900 then some (σ.set i (.self c (putF name v fs))) else none
    | _ => none
  snd := by
    intro v σ σ' h d s cs w D I r
    (refine Classical.byContradiction fun hnn => ?_; split at (h) <;> (refine hnn ?_; clear hnn))
    · rename_i c' fs hi
      (refine Classical.byContradiction fun hnn => ?_; split at (h) <;> (refine hnn ?_; clear hnn))
      · rename_i hc
        refine sA hc fun z42 hlen => ?_; try clear hc; (first | subst z42 | cases (z42))
        cases (h)
        refine sEA (I.slotAt hi) fun cc hcc sr => ?_
        refine SR.selfC sr fun ax dx es nn eqx e1 e2 rf => ?_
        clear sr; cases (eqx)
        show wpAny _ _ (holding [w] (eval (.Name x np) d.env) >>= _) _ _ s
        refine wpAny_bind (wpAny_holding (slotName D I hx hcc rfl ?_))
        refine wpAny_bind (wpAny_standAt (wpAny_bind (wpAny_holding ?_)))
        refine sEA I.ns fun m hn hst => ?_
        have had : dx ∈ adrs cs := List.mem_flatMap.mpr ⟨_, List.mem_of_getElem? hcc, List.mem_cons_of_mem _ (List.mem_singleton.mpr rfl)⟩
        have hwd : dx ∈ wr C d cs := List.mem_cons_of_mem _ (List.mem_append_right _ had)
        have hg : (PySem.W.getL name es).isSome = true := by
          cases q : fs.lookup name with
          | none => rw [(rf.getL (name := name)).2 q]; rfl
          | some a => refine sEA ((rf.getL (name := name)).1 a q) fun z hz _ => ?_; rw [hz]; rfl
        have rp : Rf (hideAll s.heap (hid C d cs false)) (putF name v fs) (putL name (PyData.keyHash u.w.params name) (.str name (s.toks + 1)) w es) := Rf.put r rf
        have hl2 := putF_len name v fs
        refine setAttr_raw (hb := d.hb) (L := d.env.locals) (m := m) D.base.X (I.leB D).le D.above hn e1 e2 (fun q => I.LC (q ▸ List.mem_append_right _ had)) (D.le.none (I.fresh _ hwd)) K.sa K.po h1 K.hd hg (by rw [← rp.len]; omega) fun h' hn' k e' => ?_
        refine wpAny_release ?_
        refine sA (I.selfSet D hcc hi hn hst hn' k e' rp) fun I' up => ?_
        exact ⟨⟨h', _, rfl⟩, cs, I', up, fun _ m => m⟩
      · exact nn0 h
    · exact nn0 h
end XG
section
variable {u : U} {n : Nat} {C : Nm}
theorem Room.under {n : Nat} {A : Around} (r : Room (n + 1) A) {C : Addr} {rest : List Value} : Room n (A.under (.builtin "type.__call__" ⟨.ref C :: rest, []⟩)) :=
  ⟨by have := r.depth; show A.depth + 1 + n < _; omega, by have := r.units; show A.units + 1 + 8 * n + 200 < _; omega, r.handled⟩
theorem hide_none' {h : Heap} {W : List Addr} {b : Addr} (e : h.get? b = none) : (hideAll h W).get? b = none := by
  cases q : (hideAll h W).get? b with
  | none => rfl
  | some o => rw [(hide_get q).1] at e; exact nn1 e
theorem Inv.beginSelf {d : Dy} {h : Heap} {args : List V} {vs : List Value} {c x dx : Addr} (hc : allLocal C = true) (hnd : (C.slots.map (·.1)).Nodup) (hl : args.length + 1 ≤ C.slots.length)
    (hn : h.Ns d.env.locals fun y => (((C.slots.map (·.1)).zip (Value.ref x :: vs)).reverse).lookup y) (r : Rs (hideAll h (d.W ++ [d.env.locals, x, dx])) args vs) (keep : Le d.he h) (fr : d.he.get? d.env.locals = none) (fx : d.he.get? x = none) (fdx : d.he.get? dx = none)
    (hx : h.get? x = some ⟨.ref c, some dx, .plain, #[]⟩) (hdx : h.get? dx = some (dictOf [] 0)) (nx : d.env.locals ≠ x) (ndx : d.env.locals ≠ dx) (hs : d.slf = [(x, dx)]) :
    Inv C d (SV.self c [] :: (sigma C (V.none :: args)).tail) h (CS.self x dx :: (csOf C (Value.ref x :: vs)).tail) := by
  have e := r.length
  have hcs : csOf C (Value.ref x :: vs) = CS.val (.ref x) :: (csOf C (Value.ref x :: vs)).tail := rfl
  have hsg : sigma C (V.raw (.ref x) :: args) = SV.val (.raw (.ref x)) :: (sigma C (V.none :: args)).tail := rfl
  have hadr : adrs (csOf C (Value.ref x :: vs)).tail = [] := by
    have := adrs_csOf (C := C) (vs := Value.ref x :: vs)
    rw [hcs] at this; exact this
  have hadr2 : adrs (CS.self x dx :: (csOf C (Value.ref x :: vs)).tail) = [x, dx] := by
    show [x, dx] ++ adrs (csOf C (Value.ref x :: vs)).tail = [x, dx]
    rw [hadr]; rfl
  have ew : wr C d (CS.self x dx :: (csOf C (Value.ref x :: vs)).tail) = [d.env.locals, x, dx] := by unfold wr; rw [noCells hc, hadr2]; rfl
  have lc : (csOf C (Value.ref x :: vs)).length = C.slots.length := csOf_len (by rw [List.length_cons]; omega)
  have noAdr : ∀ (i : Nat) (cc : CS), (csOf C (Value.ref x :: vs)).tail[i]? = some cc → ∀ a ∈ cc.adr, False := fun i cc e a m => by
    have : a ∈ adrs (csOf C (Value.ref x :: vs)).tail := List.mem_flatMap.mpr ⟨_, List.mem_of_getElem? e, m⟩
    rw [hadr] at this; exact nn4 this
  refine ⟨⟨_, hn, fun i p cc e1 e2 => ?_⟩, ?_, by rw [hcs] at lc; exact lc, ?_, keep, ?_, ?_, ?_, ?_, ?_⟩
  · have hp := List.all_eq_true.mp hc p (List.mem_of_getElem? e1)
    rw [beq_iff_eq] at hp
    unfold Stored
    rw [hp]
    have hv : cc.value = (Value.ref x :: vs)[i]? := by
      cases i with
      | zero => cases (e2); rfl
      | succ i => exact csOf_val (C := C) (vs := Value.ref x :: vs) (i := i + 1) (by rw [hcs]; exact e2)
    rw [hv]
    exact lookup_zip _ _ hnd (by rw [List.length_map, List.length_cons]; omega) i p.1 (by rw [List.getElem?_map, e1]; rfl)
  · have : (sigma C (V.raw (.ref x) :: args)).length = C.slots.length := by unfold sigma; rw [List.length_append, List.length_map, List.length_replicate, List.length_cons]; omega
    rw [hsg] at this; exact this
  · intro i sv cc e1 e2
    rw [ew]
    cases i with
    | zero => cases (e1); (refine inj1 e2 ?_; clear e2); exact .self hx hdx .nil
    | succ i => exact sigma_get (C := C) (args := V.raw (.ref x) :: args) (.cons (.raw _) r) (by rw [List.length_cons]; omega) (i + 1) sv cc (by rw [hsg]; exact e1) (by rw [hcs]; exact e2) h
  · rw [ew]; intro a m
    rcases List.mem_cons.mp m with rfl | m
    · exact fr
    rcases List.mem_cons.mp m with rfl | m
    · exact fx
    · cases List.mem_singleton.mp m; exact fdx
  · rw [noCells hc, hadr2]; intro m
    rcases List.mem_cons.mp m with m | m
    · exact nx m
    · exact ndx (List.mem_singleton.mp m)
  · rw [noCells hc]; exact fun a m => by exact nn4 m
  · intro i j c1 c2 ne e1 e2 a m m2
    cases i with
    | succ i => exact noAdr i c1 e1 a m
    | zero =>
      cases j with
      | zero => exact ne rfl
      | succ j => exact noAdr j c2 e2 a m2
  · intro i x' dx' e1
    rw [hs]
    cases i with
    | zero => cases (e1); exact List.mem_cons_self
    | succ i => exact (noAdr i _ e1 x' List.mem_cons_self).elim
theorem cls_intro {ca fa : Addr} {oc : Value} {od : Option Addr} {osl : Array (Option Value)} {fd : FuncData} (body : XS u n C) {args : List V} {fl : Fl} {σ' : List SV} {fs : List (Str × V)}
    (hmk : makesIn u.K ca = true) (hin : findIn u.K (.ref ca) "__init__" = some (some (.ref fa))) (hty : typeIn u.K (.ref fa) = some (.type "function"))
    (hK : u.K.lookup fa = some ⟨oc, od, .func fd, osl⟩) (hcode : codeIn u.K fd.code fd.qualname = true) (hbody : fd.body = .stmts body.ss)
    (hnm : NmOK C fd.scope) (hloc : allLocal C = true) (hglob : fd.globals = mainGlobals) (hbi : fd.builtins = builtinsNs)
    (hcell : ∀ x ∈ fd.scope.names, x.2 ≠ .cell) (hco : fd.scope.isCoroutine = false) (hgen : fd.scope.isGenerator = false)
    (hl : args.length + 1 ≤ C.slots.length)
    (hbind : ∀ (s : Shared) (vs : List Value), u.K.In s.heap → vs.length = args.length + 1 → BindsTo s fd ⟨vs, []⟩ ((C.slots.map (·.1)).zip vs))
    (hrun : body.den (SV.self ca [] :: (sigma C (V.none :: args)).tail) = some (fl, σ')) (hfl : fl = .next) (hfs : σ'[0]? = some (.self ca fs)) : Fn u (n + 2) (.ref ca) args (.inst ca fs) := by
  intro hb A W s vs B rm le al rs
  refine wpAny_call ?_
  have X : u.K.In s.heap := B.X.keeps le.le
  have e := rs.length
  obtain ⟨hh, gg, dd, tt, oo⟩ := s
  refine make_core (makes_of X hmk) (looks_findIn X hin) (fun self => bind_fn X self hty) (.inl rfl) ?_
  generalize hs2 : (hh.push emptyDict).push (instObj ca hh.objs.size) = h2
  have k2 : Le hh h2 := by rw [← hs2]; exact (Le.push _ _).trans (Le.push _ _)
  have sz : (hh.push emptyDict).objs.size = hh.objs.size + 1 := Heap.size_push ..
  have hx : h2.get? (hh.objs.size + 1) = some ⟨.ref ca, some hh.objs.size, .plain, #[]⟩ := by rw [← hs2, ← sz]; exact Heap.get?_push_size _ rfl
  have hdx : h2.get? hh.objs.size = some (dictOf [] 0) := by rw [← hs2]; exact Heap.get?_push_of_some _ (Heap.get?_push_size _ rfl)
  have fx : hh.get? (hh.objs.size + 1) = none := by
    cases q : hh.get? (hh.objs.size + 1) with
    | none => rfl
    | some o => exact absurd (show hh.objs.size + 1 < hh.objs.size from Heap.lt_size q) (by omega)
  have fdx : hh.get? hh.objs.size = none := fresh_size _
  have size2 : h2.objs.size = hh.objs.size + 2 := by rw [← hs2, Heap.size_push, sz]
  have X2 : u.K.In h2 := X.keeps k2
  have vlen : (Value.ref (hh.objs.size + 1) :: vs).length = args.length + 1 := by rw [List.length_cons, e]
  refine codeAny_call_def (s := ⟨h2, gg, dd, tt, oo⟩) (rm.under.dep) (X2 _ _ hK) rfl (B.lim.keeps (le.le.trans k2)) (codeRec_of X2 hcode) hbody (hbind ⟨h2, gg, dd, tt, oo⟩ _ X2 vlen) hcell ?_ (fun h₀ hns hk => ?_) hco hgen hnm.kind
  · intro x m
    have hx : x.1 ∈ C.slots.map (·.1) := by
      have : x.1 ∈ ((C.slots.map (·.1)).zip (Value.ref (hh.objs.size + 1) :: vs)).map (·.1) := List.mem_map_of_mem m
      rw [fst_zip] at this
      exact List.mem_of_mem_take this
    refine sEA (List.mem_map.mp hx) fun p hp e => ?_
    have h1 := hnm.kinds p hp
    have h2 := List.all_eq_true.mp hloc p hp
    rw [beq_iff_eq] at h2
    rw [← e, h1, h2]
  · have D : DOk u n C { hb := hb, he := hideAll h2 [hh.objs.size + 1, hh.objs.size], A := (A.under (.builtin "type.__call__" ⟨.ref ca :: vs, []⟩)).deeper (callEnv fd h2.objs.size fa), W := W, env := callEnv fd h2.objs.size fa, slf := [(hh.objs.size + 1, hh.objs.size)] } :=
      ⟨⟨hnm.kind, hglob, hbi, fun p m => .inl (hnm.kinds p m), hnm.globs, hnm.three, fun p m _ _ h => absurd (beq_iff_eq.mp (List.all_eq_true.mp hloc p m)) h, hnm.nodup, hnm.noClass⟩, B, fun b o z => ?_, rm.under.deeper, fun a m z => ?_, ?_⟩
    · have r1 : Rs (hideAll h₀ (W ++ [h2.objs.size, hh.objs.size + 1, hh.objs.size])) args vs := rs.mono (Le.hides fun b o z nn => ⟨hk b o (k2 b o z), fun m => by
        rcases List.mem_append.mp m with m | m
        · exact nn m
        rcases List.mem_cons.mp m with rfl | m
        · exact absurd (show h2.objs.size < hh.objs.size from Heap.lt_size z) (by rw [size2]; exact fun q => absurd q (by omega))
        rcases List.mem_cons.mp m with rfl | m
        · rw [fx] at z; exact nn0 z
        · cases List.mem_singleton.mp m; rw [fdx] at z; exact nn0 z⟩)
      have I := Inv.beginSelf (C := C) (c := ca) (d := { hb := hb, he := hideAll h2 [hh.objs.size + 1, hh.objs.size], A := (A.under (.builtin "type.__call__" ⟨.ref ca :: vs, []⟩)).deeper (callEnv fd h2.objs.size fa), W := W, env := callEnv fd h2.objs.size fa, slf := [(hh.objs.size + 1, hh.objs.size)] })
        hloc hnm.nodup hl hns r1 (fun b o z => hk b o (hide_get z).1) (hide_none' (fresh_size _)) (hideAll_none _ List.mem_cons_self) (hideAll_none _ (List.mem_cons_of_mem _ List.mem_cons_self)) (hk _ _ hx) (hk _ _ hdx) (by show h2.objs.size ≠ hh.objs.size + 1; rw [size2]; exact fun q => absurd q (by omega)) (by show h2.objs.size ≠ hh.objs.size; rw [size2]; exact fun q => absurd q (by omega)) rfl
      refine ex (body.snd _ fl σ' hrun _ { heap := h₀, gens := gg, drawn := dd, toks := tt + ((C.slots.map (·.1)).zip (Value.ref (hh.objs.size + 1) :: vs)).length, os := oo } _ D I) fun f s' q => ?_
      refine sAEA q fun z43 cs' I' hf => ?_; try clear q; refine sEE z43 fun h' tk z44 => ?_; try clear z43; (first | subst z44 | cases (z44))
      subst hfl
      cases (hf)
      refine sEA (I'.slotAt hfs) fun cc hcc sr => ?_
      refine SR.selfC sr fun ax dx es nn eqx e1 e2 rf => ?_
      clear sr; cases (eqx)
      have hm := I'.slf _ _ _ hcc
      cases List.mem_singleton.mp hm
      have up : Le hh h' := fun b o z => I'.keep b o (hideAll_get _ (k2 b o z) fun m => by
        rcases List.mem_cons.mp m with rfl | m
        · rw [fx] at z; exact nn0 z
        · cases List.mem_singleton.mp m; rw [fdx] at z; exact nn0 z)
      refine ⟨rfl, ⟨h', tk, rfl, up⟩, ?_⟩
      have xW : ∀ {y}, hh.get? y = none → y ∉ W := fun {y} q m => al y m q
      exact .inst (hideAll_get _ e1 (xW fx)) (hideAll_get _ e2 (xW fdx)) (rf.mono (Le.hides_sub fun a m => List.mem_append_left _ m))
    · refine hideAll_get _ (k2 b o (le.le b o z)) fun m => ?_
      have z1 : b < hb.objs.size := Heap.lt_size z
      have z2 : hb.objs.size ≤ hh.objs.size := le.size
      rcases List.mem_cons.mp m with q | m
      · rw [q] at z1; exact absurd (Nat.lt_of_lt_of_le z1 z2) (by omega)
      · rw [List.mem_singleton.mp m] at z1; exact absurd (Nat.lt_of_lt_of_le z1 z2) (Nat.lt_irrefl _)
    · have w : hh.get? a ≠ none := al a m
      cases q : hh.get? a with
      | none => exact w q
      | some o =>
        have z : (hideAll h2 [hh.objs.size + 1, hh.objs.size]).get? a = none := z
        rw [hideAll_get _ (k2 a o q) (fun m => by
          have z1 : a < hh.objs.size := Heap.lt_size q
          rcases List.mem_cons.mp m with p | m
          · rw [p] at z1; exact absurd z1 (Nat.not_lt.mpr (Nat.le_succ _))
          · rw [List.mem_singleton.mp m] at z1; exact absurd z1 (Nat.lt_irrefl _))] at z
        exact nn1 z
    · show hb.objs.size ≤ h2.objs.size
      rw [size2]
      exact Nat.le_trans le.size (Nat.le_add_right _ _)
end
noncomputable abbrev Dy.plus (d : Dy) (X : List Addr) : Dy := { d with W := X ++ d.W }
noncomputable abbrev Dy.now (d : Dy) (C : Nm) (X : List Addr) (h : Heap) (cs : List CS) : Dy := { d with W := X ++ d.W, he := hideAll h (wr C d cs) }
structure XOK (C : Nm) (d : Dy) (X : List Addr) (h : Heap) (cs : List CS) : Prop where
  live : ∀ a ∈ X, ∃ o, h.get? a = some o ∧ ∀ v, o.data ≠ .cell v
  off : ∀ a ∈ X, a ∉ wr C d cs
  new : ∀ a ∈ X, d.he.get? a = none
section
variable {u : U} {n : Nat} {C : Nm}
theorem loose {d : Dy} {X : List Addr} {σ : List SV} {h : Heap} {cs : List CS} (D : DOk u n C d) (I : Inv C (d.plus X) σ h cs) (x : XOK C d X h cs) : DOk u n C (d.now C X h cs) ∧ Inv C (d.now C X h cs) σ h cs := by
  have up : ∀ b o, d.he.get? b = some o → (hideAll h (wr C d cs)).get? b = some o := fun b o e => hideAll_get _ (I.keep b o e) fun m => by
    have := I.fresh b m
    rw [show d.he.get? b = some o from e] at this; exact nn1 this
  refine ⟨⟨D.env, D.base, fun b o e => up b o (D.le b o e), D.room, fun a m => ?_, D.above⟩, I.rebase⟩
  rcases List.mem_append.mp m with m | m
  · refine sEA (x.live a m) fun o e _ => ?_
    rw [show (d.now C X h cs).he.get? a = some o from hideAll_get _ e (x.off a m)]
    exact fun z => by exact nn1 z
  · cases e : d.he.get? a with
    | none => exact absurd e (D.alive a m)
    | some o =>
      rw [show (d.now C X h cs).he.get? a = some o from up a o e]
      exact fun z => by exact nn1 z
noncomputable def Rest (C : Nm) (d : Dy) (Y : List Addr) (h : Heap) (cs : List CS) (h' : Heap) (cs' : List CS) : Prop := ∀ b o, b ∉ Y → b ∉ wr C d cs → h.get? b = some o → h'.get? b = some o ∧ b ∉ wr C d cs'
theorem Rest.refl {d : Dy} {Y : List Addr} {h : Heap} {cs : List CS} : Rest C d Y h cs h cs := fun _ _ _ m e => ⟨e, m⟩
theorem Rest.trans {d : Dy} {Y : List Addr} {h h' h'' : Heap} {cs cs' cs'' : List CS} (a : Rest C d Y h cs h' cs') (b : Rest C d Y h' cs' h'' cs'') : Rest C d Y h cs h'' cs'' := fun x o n m e => (let ⟨e1, m1⟩ := a x o n m e; b x o n m1 e1)
theorem Rest.more {d : Dy} {Y Z : List Addr} {h h' : Heap} {cs cs' : List CS} (a : Rest C d Y h cs h' cs') (k : ∀ b ∈ Y, b ∈ Z) : Rest C d Z h cs h' cs' := fun x o n m e => a x o (fun q => n (k x q)) m e
theorem Rest.vis {d : Dy} {Y H : List Addr} {h h' : Heap} {cs cs' : List CS} (a : Rest C d Y h cs h' cs') (k : ∀ b ∈ Y, b ∈ H) : Le (hideAll h (H ++ wr C d cs)) (hideAll h' (H ++ wr C d cs')) := Le.hides fun b o e nn => by
  refine sA (a b o (fun q => nn (List.mem_append_left _ (k b q))) (fun q => nn (List.mem_append_right _ q)) e) fun e1 m1 => ?_
  exact ⟨e1, fun q => (List.mem_append.mp q).elim (fun q => nn (List.mem_append_left _ q)) m1⟩
theorem Rest.le {d : Dy} {Y : List Addr} {h h' : Heap} {cs : List CS} (k : Le h h') : Rest C d Y h cs h' cs := fun b o _ m e => ⟨k b o e, m⟩
theorem loose_back {d : Dy} {X : List Addr} {σ σ' : List SV} {h h' : Heap} {cs cs' : List CS} (I : Inv C (d.plus X) σ h cs) (x : XOK C d X h cs) (I' : Inv C (d.now C X h cs) σ' h' cs') : Inv C (d.plus X) σ' h' cs' ∧ XOK C d X h' cs' ∧ Rest C d [] h cs h' cs' := by
  have rest : Rest C d [] h cs h' cs' := fun b o _ m e => by
    have e1 : (hideAll h (wr C d cs)).get? b = some o := hideAll_get _ e m
    refine ⟨I'.keep b o e1, fun q => ?_⟩
    have := I'.fresh b q
    rw [show (d.now C X h cs).he.get? b = some o from e1] at this; exact nn1 this
  refine ⟨I'.unbase (d := d.plus X) I.keep I.fresh, ⟨fun a m => ?_, fun a m => ?_, x.new⟩, rest⟩
  · refine sEA (x.live a m) fun o e z => ?_
    exact ⟨o, (rest a o (fun q => by exact nn4 q) (x.off a m) e).1, z⟩
  · refine sEA (x.live a m) fun o e z => ?_
    exact (rest a o (fun q => by exact nn4 q) (x.off a m) e).2
structure CSt (C : Nm) (d : Dy) (X : List Addr) (acc : Addr) (σ : List SV) (h : Heap) (cs : List CS) (ys : List V) (us : List Value) : Prop where
  I : Inv C (d.plus X) σ h cs
  x : XOK C d X h cs
  l : h.IsList acc us.toArray
  r : Rs (hideAll h ((X ++ d.W) ++ wr C d cs)) ys us
structure XCB (u : U) (n : Nat) (C : Nm) where
  go : Env → Value → Sem Unit
  den : List SV → Option (List SV × List V)
  snd : ∀ σ σ' zs, den σ = some (σ', zs) → ∀ (d : Dy) (X : List Addr) (s : Shared) (cs : List CS) (acc : Addr) (ys : List V) (us : List Value), DOk u n C d → acc ∈ X → CSt C d X acc σ s.heap cs ys us → ys.length + zs.length ≤ 2 ^ 22 →
    wpAny (model u.prog u.w) d.A (go d.env (.ref acc)) (fun _ s' => Sm s s' ∧ ∃ cs' us', CSt C d X acc σ' s'.heap cs' (ys ++ zs) us' ∧ Rest C d [acc] s.heap cs s'.heap cs') NoE s
theorem CSt.turned {d : Dy} {X : List Addr} {acc a : Addr} {σ : List SV} {h h' : Heap} {cs : List CS} {ys : List V} {us us' : List Value} {w : Value} (S : CSt C d X acc σ h cs ys us) (ha : a ∈ X) (k : ∀ b o, b ≠ a → h.get? b = some o → h'.get? b = some o) (hl : h'.IsList acc us'.toArray) (ho : ∃ o, h'.get? a = some o ∧ ∀ v, o.data ≠ .cell v) :
    Inv C (d.plus X) σ h' cs ∧ XOK C d X h' cs ∧ Le (hideAll h ((X ++ d.W) ++ wr C d cs)) (hideAll h' ((X ++ d.W) ++ wr C d cs)) ∧ Rest C d [a] h cs h' cs := by
  refine ⟨S.I.turned (List.mem_append_left _ ha) (S.x.off a ha) (S.x.new a ha) (fun o e v => ?_) k, ⟨fun b m => ?_, S.x.off, S.x.new⟩, Le.hides fun b o e nn => ⟨k b o (fun q => nn (q ▸ List.mem_append_left _ (List.mem_append_left _ ha))) e, nn⟩, fun b o nb m e => ⟨k b o (fun q => nb (q ▸ List.mem_singleton.mpr rfl)) e, m⟩⟩
  · refine sEA (S.x.live a ha) fun o' e' z => ?_
    rw [e'] at e; cases (e); exact z v
  · by_cases q : b = a
    · rw [q]; exact ho
    · refine sEA (S.x.live b m) fun o e z => ?_
      exact ⟨o, k b o q e, z⟩
end
namespace XCB
variable {u : U} {n : Nat} {C : Nm}
noncomputable def emit (a : XE u n C) : XCB u n C where
  go env acc := do let _ ← call (.builtin "list.append") [acc, ← eval a.e env]
  den σ := match a.den σ with
    | some (v, false) => some (σ, [v])
    | _ => none
  snd := by
    intro σ σ' zs h d X s cs acc ys us D hacc S hlen
    (refine Classical.byContradiction fun hnn => ?_; split at (h) <;> (refine hnn ?_; clear hnn))
    · rename_i v ha
      cases (h)
      refine sA (loose D S.I S.x) fun D3 I3 => ?_
      show wpAny _ _ (eval a.e d.env >>= fun x => call (.builtin "list.append") [.ref acc, x] >>= fun _ => pure ()) _ _ s
      refine wpAny_bind (ex (a.snd σ v false ha (d.now C X s.heap cs) s cs D3 I3) fun w s₁ q => ?_)
      refine sEEA q.1 fun h1 tk z45 e1 => ?_; (first | subst z45 | cases (z45))
      have hr : R (hideAll h1 ((X ++ d.W) ++ wr C d cs)) v w := q.2
      have S1 : CSt C d X acc σ h1 cs ys us := ⟨S.I.keeps e1, ⟨fun b m => (let ⟨o, e, z⟩ := S.x.live b m; ⟨o, e1 b o e, z⟩), S.x.off, S.x.new⟩, (let ⟨o, e, z⟩ := S.l; ⟨o, e1 _ o e, z⟩), S.r.mono (Le.hides_same e1)⟩
      refine wpAny_bind (wpAny_list_append (s := { s with heap := h1, toks := tk }) S1.l (fun h' hl hsame => ?_) (by rw [List.size_toArray, ← S.r.length]; exact Nat.le_trans (by omega) (show 2 ^ 22 ≤ sizeLine by decide)))
      have k : ∀ b o, b ≠ acc → h1.get? b = some o → h'.get? b = some o := fun b o ne e => hsame.extBut b o ne e
      have hl' : h'.IsList acc (us ++ [w]).toArray := by
        have : us.toArray.push w = (us ++ [w]).toArray := by simp
        rw [← this]; exact hl
      refine sAAA (S1.turned (w := w) hacc k hl' (let ⟨o, e, _, m, hd⟩ := hl'; ⟨o, e, fun v z => by rw [hd] at z; cases z⟩)) fun I2 X2 v2 r2 => ?_
      refine wpAny_pure ⟨⟨h', tk, rfl⟩, cs, us ++ [w], ⟨I2, X2, hl', (S1.r.mono v2).append (.cons (hr.mono v2) .nil)⟩, ?_⟩
      exact (Rest.le e1).trans r2
    · exact nn0 h
end XCB
noncomputable def turnTail (e : PySem.Expr) (k : Nat) (ifs : List PySem.Expr) (go : Sem Unit) (it acc : Value) (env : Env) : Sem Fin := do
  let mut ok := true
  for c in ifs do
    if ok then ok ← isTrue c env (eval c env)
  if ok then go
  again (.compLoop e k it acc env)
noncomputable def turnForm (e : PySem.Expr) (k : Nat) (tgt : PySem.Expr) (ip : Pos) (ifs : List PySem.Expr) (go : Sem Unit) (it acc : Value) (env : Env) : Sem Fin := do
  standAt ip
  match ← pyNext it with
  | none => pure (.done .next)
  | some v =>
    letOwnedTupleGo tgt it v
    assign tgt env v
    turnTail e k ifs go it acc env
noncomputable def testD {u : U} {n : Nat} {C : Nm} : Option (XT u n C) → List SV → Option Bool
  | .none, _ => some true
  | some t, σ => t.den σ
noncomputable def ifsOf {u : U} {n : Nat} {C : Nm} : Option (XT u n C) → List PySem.Expr
  | .none => []
  | some t => [t.e]
noncomputable def compD (g : V → List SV → Option (List SV)) (t : List SV → Option Bool) (b : List SV → Option (List SV × List V)) : List V → List SV → Option (List SV × List V)
  | [], σ => some (σ, [])
  | x :: r, σ => match g x σ with
    | none => none
    | some σ₀ => match t σ₀ with
      | none => none
      | some false => compD g t b r σ₀
      | some true => match b σ₀ with
        | none => none
        | some (σ₁, zs) => match compD g t b r σ₁ with
          | none => none
          | some (σ₂, ws) => some (σ₂, zs ++ ws)
section
variable {u : U} {n : Nat} {C : Nm}
inductive CompI {u : U} {n : Nat} {C : Nm} (g : XG u n C) (t : Option (XT u n C)) (body : XCB u n C) (d : Dy) (X : List Addr) (s₂ : Shared) (cs₂ : List CS) (σ' : List SV) (xs : List V) (zs ys : List V) (a acc : Addr) (St : Nat → Heap → Prop) (m : Nat) (s : Shared) : Prop
  | mk (i : Nat) (σ₀ : List SV) (cs : List CS) (ys₀ : List V) (us₀ : List Value) (ws : List V) (em : m = xs.length + 1 - i) (hi : i ≤ xs.length) (hl : compD g.den (testD t) body.den (xs.drop i) σ₀ = some (σ', ws)) (hy : ys ++ zs = ys₀ ++ ws)
    (S : CSt C d (a :: X) acc σ₀ s.heap cs ys₀ us₀) (st : St i s.heap) (rest : Rest C d [acc, a] s₂.heap cs₂ s.heap cs) (sm : Sm s₂ s) : CompI g t body d X s₂ cs₂ σ' xs zs ys a acc St m s
theorem compD_inv {g : V → List SV → Option (List SV)} {t : List SV → Option Bool} {b : List SV → Option (List SV × List V)} {x : V} {r : List V} {σ σ' : List SV} {ws : List V} {P : Prop} (h : compD g t b (x :: r) σ = some (σ', ws))
    (k : ∀ σ₁, g x σ = some σ₁ → ((t σ₁ = some false ∧ compD g t b r σ₁ = some (σ', ws)) ∨ ∃ σ₂ z1 w1, t σ₁ = some true ∧ b σ₁ = some (σ₂, z1) ∧ compD g t b r σ₂ = some (σ', w1) ∧ ws = z1 ++ w1) → P) : P := by
  rw [compD] at h
  cases hg : g x σ with
  | none => rw [hg] at h; exact nn0 h
  | some σ₁ =>
    rw [hg] at h
    refine k σ₁ hg ?_
    dsimp only at h
    cases ht : t σ₁ with
    | none => rw [ht] at h; exact nn0 h
    | some c =>
      rw [ht] at h
      cases c with
      | false => exact .inl ⟨rfl, h⟩
      | true =>
        dsimp only at h
        cases hb : b σ₁ with
        | none => rw [hb] at h; exact nn0 h
        | some q =>
          rw [hb] at h
          dsimp only at h
          cases hr : compD g t b r q.1 with
          | none => rw [hr] at h; exact nn0 h
          | some z => rw [hr] at h; cases (h); exact .inr ⟨q.1, q.2, z.2, rfl, rfl, hr, rfl⟩
theorem comp_core {elt : PySem.Expr} {gens : List Comprehension} {scope : Scope} {pos : Pos} {k : Nat} {ip : Pos} {g : XG u n C} {t : Option (XT u n C)} {body : XCB u n C} {d : Dy} {X : List Addr} {s₂ : Shared} {cs₂ : List CS} {σ σ' : List SV} {xs zs ys : List V} {us : List Value} {a acc : Addr} {fp : List Addr} {P : Nat → Value → Prop} {St : Nat → Heap → Prop} {E : Value → Shared → Prop}
    (hturn : ∀ it acc env, compTurn (.ListComp elt gens scope pos) k it acc env = turnForm (.ListComp elt gens scope pos) k g.t ip (ifsOf t) (body.go env acc) it acc env)
    (hgo : ∀ it v, letOwnedTupleGo g.t it v = pure ())
    (D : DOk u n C d) (hacc : acc ∈ X) (hX : a ∉ X) (S : CSt C d (a :: X) acc σ s₂.heap cs₂ ys us) (W : Walks u.prog u.w d.A a fp [a] xs.length P St) (St0 : St 0 s₂.heap)
    (hfp : ∀ b ∈ fp, b = a ∨ (s₂.heap.get? b ≠ none ∧ b ≠ acc ∧ b ∉ wr C d cs₂)) (hal : ∀ i h, St i h → ∃ o, h.get? a = some o ∧ ∀ v, o.data ≠ .cell v)
    (hP : ∀ (i : Nat) (v : Value), i < xs.length → P i v → ∃ y, xs[i]? = some y ∧ R (hideAll s₂.heap (((a :: X) ++ d.W) ++ wr C d cs₂)) y v)
    (hloop : compD g.den (testD t) body.den xs σ = some (σ', zs)) (hlen : ys.length + zs.length ≤ 2 ^ 22) :
    codeAny (model u.prog u.w) d.A (.compLoop (.ListComp elt gens scope pos) k (.ref a) (.ref acc) d.env) (fun r s' => match r with
      | .ok _ => Sm s₂ s' ∧ ∃ cs' us', CSt C d X acc σ' s'.heap cs' (ys ++ zs) us' ∧ Rest C d [acc, a] s₂.heap cs₂ s'.heap cs'
      | .error e => E e s') s₂ := by
  have hne : a ≠ acc := fun q => hX (q ▸ hacc)
  have ha : a ∈ a :: X := List.mem_cons_self
  have hacc' : acc ∈ a :: X := List.mem_cons_of_mem _ hacc
  refine genR fun QQ hQ => ?_
  refine codeAny_loop rfl (CompI g t body d X s₂ cs₂ σ' xs zs ys a acc St)
    ?_ (xs.length + 1) ⟨0, σ, cs₂, ys, us, zs, rfl, Nat.zero_le _, hloop, rfl, S, St0, Rest.refl, Sm.refl _⟩
  rintro m s ⟨i, σ₀, cs, ys₀, us₀, ws, rfl, hi, hl, hys, S0, St1, rest, sm⟩
  show wpAny _ d.A ((compTurn (.ListComp elt gens scope pos) k (.ref a) (.ref acc) d.env).onRaise (fun x => do noteFrame x d.env; theTreesLotGoes x)) _ _ s
  refine genW fun QW hQW => ?_
  refine wpAny_noted ?_
  rw [hturn]
  refine wpAny_bind (wpAny_standAt (wpAny_bind ?_))
  have hfb : ∀ b ∈ fp, b ≠ a → ∃ o, s.heap.get? b = some o ∧ b ≠ acc ∧ b ∉ wr C d cs := fun b m ne => by
    rcases hfp b m with q | ⟨q1, q2, q3⟩
    · exact absurd q ne
    · cases e : s₂.heap.get? b with
      | none => exact absurd e q1
      | some o =>
        obtain ⟨e1, m1⟩ := rest b o (fun z => by
          rcases List.mem_cons.mp z with z | z
          · exact q2 z
          · exact ne (List.mem_singleton.mp z)) q3 e
        exact ⟨o, e1, q2, m1⟩
  by_cases hlt : i < xs.length
  · refine W.item i s _ _ hlt St1 fun v h' tk hPv St2 kp => ?_
    refine sEA (hP i v hlt hPv) fun y hy hr => ?_
    have kp' : ∀ b o, b ≠ a → s.heap.get? b = some o → h'.get? b = some o := fun b o ne e => kp b o (fun m => ne (List.mem_singleton.mp m)) e
    have hl1 : h'.IsList acc us₀.toArray := (let ⟨o, e, z⟩ := S0.l; ⟨o, kp' _ o (Ne.symm hne) e, z⟩)
    refine sAAA (S0.turned (w := v) ha kp' hl1 (hal _ _ St2)) fun I1 X1 v1 r1 => ?_
    have S1 : CSt C d (a :: X) acc σ₀ h' cs ys₀ us₀ := ⟨I1, X1, hl1, S0.r.mono v1⟩
    have rest1 : Rest C d [acc, a] s₂.heap cs₂ h' cs := rest.trans (r1.more fun b m => List.mem_cons_of_mem _ m)
    have hr1 : R (hideAll h' (((a :: X) ++ d.W) ++ wr C d cs)) y v := hr.mono (rest1.vis fun b m => by
      rcases List.mem_cons.mp m with m | m
      · exact m ▸ List.mem_append_left _ hacc'
      · rw [List.mem_singleton.mp m]; exact List.mem_append_left _ ha)
    have hd : xs.drop i = y :: xs.drop (i + 1) := by
      have : xs[i] = y := by
        rw [List.getElem?_eq_getElem hlt] at hy; exact Option.some.inj hy
      rw [← this]; exact List.drop_eq_getElem_cons hlt
    rw [hd] at hl
    dsimp only
    refine wpAny_bind (wpAny_of_eq (hgo _ _) ?_)
    refine compD_inv hl fun σ₁ hσ₁ hl => ?_
    · clear hd
      refine sA (loose D I1 X1) fun D3 I3 => ?_
      refine wpAny_bind (wpAny_mono (g.snd y σ₀ σ₁ hσ₁ (d.now C (a :: X) h' cs) { s with heap := h', toks := tk } cs v D3 I3 hr1) (fun _ s4 q4 => ?_) fun _ _ f => f.elim)
      refine sAEAA q4 fun sm4 cs4 I4 _ _ => ?_; try clear q4
      refine sAA (loose_back I1 X1 I4) fun I4' X4 rest4 => ?_
      have frame4 : ∀ {h'' : Heap} {cs'' : List CS} {Y : List Addr}, (∀ b ∈ Y, b = acc) → Rest C d Y h' cs h'' cs'' → St (i + 1) h'' := fun hY r => W.frame _ _ _ St2 fun b m o e => by
        by_cases q : b = a
        · rw [q] at e ⊢
          exact (r a o (fun z => hne (hY a z)) (X1.off a ha) e).1
        · refine sEAA (hfb b m q) fun _ _ q2 q3 => ?_
          exact (r b o (fun z => q2 (hY b z)) q3 e).1
      have l4 : s4.heap.IsList acc us₀.toArray := (let ⟨o, e, z⟩ := hl1; ⟨o, (rest4 _ o (fun z => by exact nn4 z) (X1.off acc hacc') e).1, z⟩)
      have S4 : CSt C d (a :: X) acc σ₁ s4.heap cs4 ys₀ us₀ := ⟨I4', X4, l4, S1.r.mono (rest4.vis fun b m => by exact nn4 m)⟩
      have tests : ∀ (Q : Bool → Shared → Prop) (E : Value → Shared → Prop) (c : Bool), testD t σ₁ = some c → (∀ s5, Kp s4 s5 → Q c s5) →
          wpAny (model u.prog u.w) d.A (forIn (ifsOf t) true fun c r => if r = true then do let ok ← isTrue c d.env (eval c d.env); pure (ForInStep.yield ok) else pure (ForInStep.yield r)) Q E s4 := by
        intro Q E c hc hQ
        cases t with
        | none => cases (hc); exact wpAny_tests_nil (hQ _ (Kp.refl _))
        | some t =>
          refine sA (loose D I4' X4) fun D5 I5 => ?_
          exact wpAny_tests_one (wpAny_mono (t.snd σ₁ c hc (d.now C (a :: X) s4.heap cs4) s4 cs4 D5 I5) (fun b s5 q => by rw [q.2]; exact hQ _ q.1) fun _ _ f => f.elim)
      unfold turnTail
      rcases hl with ⟨ht, hl⟩ | ⟨σ₂, z1, w1, ht, hb, hrec, rfl⟩
      · refine wpAny_bind (tests _ _ _ ht fun s5 k5 => ?_)
        refine sEEA k5 fun h5 tk5 z46 e5 => ?_; try clear k5; (first | subst z46 | cases (z46))
        rw [if_neg (by decide)]
        refine wpAny_pure (hQW (.again _) _ ⟨rfl, xs.length + 1 - (i + 1), by omega, i + 1, σ₁, cs4, ys₀, us₀, ws, rfl, hlt, hl, hys, ?_, ?_, ?_, ?_⟩)
        · exact ⟨I4'.keeps e5, ⟨fun b m => (let ⟨o, e, z⟩ := X4.live b m; ⟨o, e5 b o e, z⟩), X4.off, X4.new⟩, (let ⟨o, e, z⟩ := l4; ⟨o, e5 _ o e, z⟩), S4.r.mono (Le.hides_same e5)⟩
        · exact frame4 (Y := []) (fun b m => by exact nn4 m) (rest4.trans (Rest.le e5))
        · exact rest1.trans ((rest4.more fun b m => by exact nn4 m).trans (Rest.le e5))
        · exact sm.trans (Sm.trans ⟨h', tk, rfl⟩ (sm4.trans ⟨h5, tk5, rfl⟩))
      · refine wpAny_bind (tests _ _ _ ht fun s5 k5 => ?_)
        refine sEEA k5 fun h5 tk5 z47 e5 => ?_; try clear k5; (first | subst z47 | cases (z47))
        have S5 : CSt C d (a :: X) acc σ₁ h5 cs4 ys₀ us₀ := ⟨I4'.keeps e5, ⟨fun b m => (let ⟨o, e, z⟩ := X4.live b m; ⟨o, e5 b o e, z⟩), X4.off, X4.new⟩, (let ⟨o, e, z⟩ := l4; ⟨o, e5 _ o e, z⟩), S4.r.mono (Le.hides_same e5)⟩
        have hlen1 : ys₀.length + z1.length ≤ 2 ^ 22 := by
          have := congrArg List.length hys
          simp only [List.length_append] at this
          omega
        rw [if_pos rfl]
        refine wpAny_bind (wpAny_mono (body.snd σ₁ σ₂ z1 hb d (a :: X) { s4 with heap := h5, toks := tk5 } cs4 acc ys₀ us₀ D hacc' S5 hlen1) (fun _ s6 q6 => ?_) fun _ _ f => f.elim)
        refine sAEEA q6 fun sm6 cs6 us6 S6 rest6 => ?_; try clear q6
        refine wpAny_pure (hQW (.again _) _ ⟨rfl, xs.length + 1 - (i + 1), by omega, i + 1, σ₂, cs6, ys₀ ++ z1, us6, w1, rfl, hlt, hrec, by rw [hys, List.append_assoc], S6, ?_, ?_, ?_⟩)
        · exact frame4 (Y := [acc]) (fun b m => List.mem_singleton.mp m) ((rest4.more fun b m => by exact nn4 m).trans ((Rest.le e5).trans rest6))
        · exact rest1.trans ((rest4.more fun b m => by exact nn4 m).trans ((Rest.le e5).trans (rest6.more fun b m => List.mem_singleton.mp m ▸ List.mem_cons_self)))
        · exact sm.trans (Sm.trans ⟨h', tk, rfl⟩ (sm4.trans (Sm.trans ⟨h5, tk5, rfl⟩ sm6)))
  · have hi' : i = xs.length := by omega
    subst hi'
    refine W.done s _ _ St1 fun h' tk kp => ?_
    have kp' : ∀ b o, b ≠ a → s.heap.get? b = some o → h'.get? b = some o := fun b o ne e => kp b o (fun m => ne (List.mem_singleton.mp m)) e
    have hd : xs.drop xs.length = [] := List.drop_length
    rw [hd] at hl
    cases (hl)
    refine wpAny_pure (hQW (.done .next) _ (hQ (.ok .next) _ ⟨sm.trans ⟨h', tk, rfl⟩, cs, us₀, ?_, rest.trans fun b o nb m e => ⟨kp' b o (fun q => nb (q ▸ List.mem_cons_of_mem _ (List.mem_singleton.mpr rfl))) e, m⟩⟩))
    have vis : Le (hideAll s.heap (((a :: X) ++ d.W) ++ wr C d cs)) (hideAll h' ((X ++ d.W) ++ wr C d cs)) := Le.hides fun b o e nn => ⟨kp' b o (fun q => nn (q ▸ List.mem_cons_self)) e, fun m => nn (List.mem_cons_of_mem _ m)⟩
    rw [hys, List.append_nil]
    refine ⟨S0.I.move (d' := d.plus X) rfl rfl (fun b o m e => kp' b o (fun q => S0.x.off a ha (q ▸ m)) e) (fun b o ⟨v, hv⟩ e => kp' b o (fun q => ?_) e) vis (fun b o e => kp' b o (fun q => ?_) (S0.I.keep b o e)) S0.I.fresh, ⟨fun b m => ?_, fun b m => S0.x.off b (List.mem_cons_of_mem _ m), fun b m => S0.x.new b (List.mem_cons_of_mem _ m)⟩, (let ⟨o, e, z⟩ := S0.l; ⟨o, kp' _ o (Ne.symm hne) e, z⟩), S0.r.mono vis⟩
    · refine sEA (S0.x.live a ha) fun o' e' z => ?_
      rw [q, e'] at e; cases (e); exact z v hv
    · rw [q, show d.he.get? a = none from S0.x.new a ha] at e; exact nn0 e
    · refine sEA (S0.x.live b (List.mem_cons_of_mem _ m)) fun o e z => ?_
      exact ⟨o, kp' b o (fun q => hX (q ▸ m)) e, z⟩
end
theorem compStart_ok {prog : Program} {w : World} {A : Around} {R : Result → Shared → Prop} {s : Shared} {elt : PySem.Expr} {gens : List Comprehension} {scope : Scope} {pos : Pos} {k : Nat} {tgt iter : PySem.Expr} {ifs : List PySem.Expr} {it acc : Value} {env : Env}
    (hg : gens[k]? = some ⟨tgt, iter, ifs, 0⟩)
    (h0 : codeAny (model prog w) A (.compLoop (.ListComp elt gens scope pos) k it acc env) R s)
    (hself : ∀ (Q : Value → Shared → Prop) (E : Value → Shared → Prop), Q it s → wpAny (model prog w) A (pyIter it) Q E s) :
    codeAny (model prog w) A (.compStart (.ListComp elt gens scope pos) k it acc env) R s := by
  refine codeAny_of_tree ?_
  show wpAny _ _ ((compStart (.ListComp elt gens scope pos) k it acc env).onRaise (fun x => do noteFrame x env; standAt theWindowsPlace)) _ _ s
  refine wpAny_notedAt ?_
  unfold compStart
  have hc : (clausesOf (.ListComp elt gens scope pos))[k]? = some ⟨tgt, iter, ifs, 0⟩ := hg
  rw [hc]
  show wpAny _ _ (ask >>= _) _ _ s
  refine wpAny_bind (wpAny_askSetting (wpAny_ite ?_))
  split
  · first
      | exact wpAny_bind (wpAny_pure (wpAny_pure (And.intro rfl h0)))
      | exact wpAny_pure (And.intro rfl h0)
  · first
      | exact wpAny_bind (wpAny_rule (wpAny_bind (wpAny_standAt (wpAny_bind (hself _ _ (wpAny_pure (And.intro rfl h0)))))))
      | (refine wpAny_bind (wpAny_rule ?_); show wpAny _ _ (standAt iter.pos >>= _) _ _ s; exact wpAny_bind (wpAny_standAt (wpAny_bind (hself _ _ (wpAny_pure (And.intro rfl h0))))))
section
variable {u : U} {n : Nat} {C : Nm}
theorem CSt.grow {d : Dy} {X : List Addr} {acc a : Addr} {σ : List SV} {h h' : Heap} {cs : List CS} {ys : List V} {us : List Value} (D : DOk u n C d) (S : CSt C d X acc σ h cs ys us) (k : Le h h') (ha : h.get? a = none) (ho : ∃ o, h'.get? a = some o ∧ ∀ v, o.data ≠ .cell v) :
    CSt C d (a :: X) acc σ h' cs ys us ∧ a ∉ X ∧ Le (hideAll h ((X ++ d.W) ++ wr C d cs)) (hideAll h' (((a :: X) ++ d.W) ++ wr C d cs)) := by
  refine sA (loose D S.I S.x) fun D3 I3 => ?_
  have al := I3.alive D3
  have haX : a ∉ X := fun m => by
    refine sEA (S.x.live a m) fun o e _ => ?_
    rw [ha] at e; exact nn0 e
  have hw : a ∉ wr C d cs := fun m => al a (List.mem_append_right _ m) ha
  have vis : Le (hideAll h ((X ++ d.W) ++ wr C d cs)) (hideAll h' (((a :: X) ++ d.W) ++ wr C d cs)) := Le.hides fun b o e nn => ⟨k b o e, fun m => by
    rcases List.mem_cons.mp m with m | m
    · rw [m, ha] at e; exact nn0 e
    · exact nn m⟩
  refine ⟨⟨S.I.move (d' := d.plus (a :: X)) rfl rfl (fun b o _ e => k b o e) (fun b o _ e => k b o e) vis (S.I.keep.trans k) S.I.fresh, ⟨fun b m => ?_, fun b m => ?_, fun b m => ?_⟩, (let ⟨o, e, z⟩ := S.l; ⟨o, k _ o e, z⟩), S.r.mono vis⟩, haX, vis⟩
  · rcases List.mem_cons.mp m with m | m
    · rw [m]; exact ho
    · refine sEA (S.x.live b m) fun o e z => ?_
      exact ⟨o, k b o e, z⟩
  · rcases List.mem_cons.mp m with m | m
    · rw [m]; exact hw
    · exact S.x.off b m
  · rcases List.mem_cons.mp m with m | m
    · rw [m]; exact S.I.keep.none ha
    · exact S.x.new b m
end
namespace XCB
variable {u : U} {n : Nat} {C : Nm}
noncomputable def for_ (elt : PySem.Expr) (gens : List Comprehension) (scope : Scope) (pos : Pos) (k : Nat) (g : XG u n C) (a : XE u n C) (t : Option (XT u n C)) (body : XCB u n C)
    (hturn : ∀ it acc env, compTurn (.ListComp elt gens scope pos) k it acc env = turnForm (.ListComp elt gens scope pos) k g.t a.e.pos (ifsOf t) (body.go env acc) it acc env)
    (hg : gens[k]? = some ⟨g.t, a.e, ifsOf t, 0⟩)
    (hgo : ∀ it v, letOwnedTupleGo g.t it v = pure ()) (hs : ∀ env x, foldedSetIterable a.e env x = pure x) : XCB u n C where
  go env acc := do
    let x ← eval a.e env
    standAt a.e.pos
    let x ← foldedSetIterable a.e env x
    let _ ← runOwn (.compStart (.ListComp elt gens scope pos) k (← holding [x] (pyIter x)) acc env) env
  den σ := match a.den σ with
    | some (v, false) => match iterV v with
      | some xs => compD g.den (testD t) body.den xs σ
      | .none => .none
    | _ => .none
  snd := by
    intro σ σ' zs h d X s cs acc ys us D hacc S hlen
    (refine Classical.byContradiction fun hnn => ?_; split at (h) <;> (refine hnn ?_; clear hnn))
    · rename_i v ha
      (refine Classical.byContradiction fun hnn => ?_; split at (h) <;> (refine hnn ?_; clear hnn))
      · rename_i xs hx
        refine sA (loose D S.I S.x) fun D3 I3 => ?_
        refine wpAny_bind (ex (a.snd σ v false ha (d.now C X s.heap cs) s cs D3 I3) fun x s₁ q => wpAny_bind (wpAny_standAt (wpAny_bind (wpAny_of_eq (hs _ _) (wpAny_bind (wpAny_holding ?_))))))
        refine sEEA q.1 fun h1 tk z48 e1 => ?_; (first | subst z48 | cases (z48))
        have hr : R (hideAll h1 ((X ++ d.W) ++ wr C d cs)) v x := q.2
        have S1 : CSt C d X acc σ h1 cs ys us := ⟨S.I.keeps e1, ⟨fun b m => (let ⟨o, e, z⟩ := S.x.live b m; ⟨o, e1 b o e, z⟩), S.x.off, S.x.new⟩, (let ⟨o, e, z⟩ := S.l; ⟨o, e1 _ o e, z⟩), S.r.mono (Le.hides_same e1)⟩
        refine ex (iter_ok D.room.handled hx hr) fun it s₂ z => ?_
        obtain ⟨k2, fp, P, St, rfl, W, St0, hn, hfp, hal, _, hP⟩ := z
        refine sAA (S1.grow D k2.le (fresh_size h1) (hal _ _ St0)) fun S2 haX vis => ?_
        refine wpAny_bind (wpAny_runOwn (h := none) ?_ (by intro z; exact nn0 z))
        refine codeAny_mono (compStart_ok (A := d.A) hg (comp_core (E := fun _ _ => False) hturn hgo D hacc haX S2 W St0 (fun b m => ?_) hal (fun i v hi hp => ?_) h hlen) fun Q E hq => W.self 0 s₂ _ _ St0 hq) fun r s' z => ?_
        · rcases hfp b m with q | ⟨q1, q2⟩
          · exact .inl q
          · exact .inr ⟨fun z => q1 (k2.le.none z), fun z => q2 (z ▸ List.mem_append_left _ (List.mem_append_left _ hacc)), fun z => q2 (List.mem_append_right _ z)⟩
        · refine sEA (hP i v hi hp) fun y hy hr => ?_
          exact ⟨y, hy, hr.mono vis⟩
        · cases r with
          | ok f =>
            refine sAEEA z fun sm cs' us' S' rest => ?_; try clear z
            refine wpAny_pure ⟨Sm.trans ⟨h1, tk, rfl⟩ (k2.sm.trans sm), cs', us', S', fun b o nb m e => ?_⟩
            have e3 := k2.le b o (e1 b o e)
            refine rest b o (fun mm => ?_) m e3
            rcases List.mem_cons.mp mm with mm | mm
            · exact nb (mm ▸ List.mem_cons_self)
            · have := List.mem_singleton.mp mm
              rw [this] at e
              have := e1 _ _ e
              rw [fresh_size] at this; exact nn0 this
          | error e => exact z.elim
      · exact nn0 h
    · exact nn0 h
end XCB
theorem closure_go {env : Env} : ∀ (names : List (Str × NameKind)) (acc : List (Str × Addr)), (∀ x ∈ names, x.2 = .free → ∃ a, env.cells.lookup x.1 = some a) → (∀ y a, acc.lookup y = some a → env.cells.lookup y = some a) →
    ∃ cl, (forIn names acc fun x __s => match x with
      | (name, kind) => if (kind == NameKind.free) = true then do
          let a ← cellOf env name
          pure (ForInStep.yield ((name, a) :: __s))
        else pure (ForInStep.yield __s) : Sem (List (Str × Addr))) = pure cl ∧ (∀ y a, cl.lookup y = some a → env.cells.lookup y = some a) ∧ (∀ y, (acc.lookup y).isSome = true → (cl.lookup y).isSome = true) ∧ ∀ x ∈ names, x.2 = .free → (cl.lookup x.1).isSome = true
  | [], acc, _, ha => ⟨acc, rfl, ha, fun _ z => z, fun _ m => by exact nn4 m⟩
  | (x, k) :: names, acc, hf, ha => by
    have step : ∃ b', (if (k == NameKind.free) = true then do
          let a ← cellOf env x
          pure (ForInStep.yield ((x, a) :: acc))
        else pure (ForInStep.yield acc) : Sem (ForInStep (List (Str × Addr)))) = pure (ForInStep.yield b') ∧ (∀ y a, b'.lookup y = some a → env.cells.lookup y = some a) ∧ (∀ y, (acc.lookup y).isSome = true → (b'.lookup y).isSome = true) ∧ (k = .free → (b'.lookup x).isSome = true) := by
      by_cases hk : k = .free
      · refine sE (hf (x, k) List.mem_cons_self hk) fun a e => ?_
        refine ⟨(x, a) :: acc, ?_, fun y b z => ?_, fun y z => ?_, fun _ => ?_⟩
        · rw [if_pos (by rw [hk]; rfl)]
          unfold cellOf
          rw [e]; rfl
        · rw [List.lookup_cons] at z
          (refine Classical.byContradiction fun hnn => ?_; split at (z) <;> (refine hnn ?_; clear hnn))
          · rename_i q; rw [beq_iff_eq] at q; cases (z); rw [q]; exact e
          · exact ha y b z
        · rw [List.lookup_cons]
          split
          · rfl
          · exact z
        · rw [List.lookup_cons, beq_self_eq_true]; rfl
      · refine ⟨acc, ?_, ha, fun _ z => z, fun z => absurd z hk⟩
        rw [if_neg (by rw [beq_iff_eq]; exact hk)]
    refine sEAAA step fun b' e1 h1 h2 h3 => ?_; try clear step
    refine sEAAA (closure_go names b' (fun y m => hf y (List.mem_cons_of_mem _ m)) h1) fun cl e2 g1 g2 g3 => ?_
    refine ⟨cl, ?_, g1, fun y z => g2 y (h2 y z), fun y m => ?_⟩
    · rw [List.forIn_cons]
      dsimp only
      rw [e1, pure_bind]
      exact e2
    · rcases List.mem_cons.mp m with rfl | m
      · exact fun z => g2 _ (h3 z)
      · exact g3 y m
theorem closure_of {scope : Scope} {env : Env} (hf : ∀ x ∈ scope.names, x.2 = .free → ∃ a, env.cells.lookup x.1 = some a) : ∃ cl, closureFor scope env = pure cl ∧ ∀ x ∈ scope.names, x.2 = .free → cl.lookup x.1 = env.cells.lookup x.1 := by
  refine sEAAA (closure_go scope.names [] hf fun _ _ z => by cases z) fun cl e g1 _ g3 => ?_
  refine ⟨cl, ?_, fun x m k => ?_⟩
  · unfold closureFor
    show (forIn scope.names [] _ >>= fun cs => pure cs) = _
    rw [bind_pure]
    exact e
  · have := g3 x m k
    cases q : cl.lookup x.1 with
    | none => rw [q] at this; exact nn2 this
    | some a => exact (g1 _ _ q).symm
theorem relabel_lookup {env : Env} {scope : Scope} (x : Str) : (relabel scope env).names.lookup x = (scope.names.lookup x).map fun k => if (k == .free && env.scope.kind == .function && env.kindOf x == some .cell) then .cell else k := by
  unfold relabel
  dsimp only
  generalize scope.names = names
  induction names with
  | nil => rfl
  | cons p r ih =>
    obtain ⟨n, k⟩ := p
    rw [List.map_cons]
    dsimp only
    by_cases hc : (k == NameKind.free && env.scope.kind == ScopeKind.function && env.kindOf n == some NameKind.cell) = true
    · rw [if_pos hc]
      cases hx : x == n with
      | true =>
        have e := beq_iff_eq.mp hx
        subst e
        simp only [List.lookup_cons, beq_self_eq_true, Option.map_some]
        rw [if_pos hc]
      | false => simp only [List.lookup_cons, hx]; exact ih
    · rw [if_neg hc]
      cases hx : x == n with
      | true =>
        have e := beq_iff_eq.mp hx
        subst e
        simp only [List.lookup_cons, beq_self_eq_true, Option.map_some]
        rw [if_neg hc]
      | false => simp only [List.lookup_cons, hx]; exact ih
noncomputable def nameAt (C : Nm) (i : Nat) : Str := match C.slots[i]? with
  | some p => p.1
  | none => ("" : Str)
structure CompOK (C C' : Nm) (sc : Scope) (nl : Nat) (outs : List Nat) : Prop where
  nm : NmOK C' sc
  noCell : ∀ x ∈ sc.names, x.2 ≠ .cell
  names : ∀ x ∈ sc.names, x.2 = .local → sc.names.lookup x.1 = some .local
  free : ∀ x ∈ sc.names, x.2 = .free → (x.1, NameKind.cell) ∈ C.slots
  len : C'.slots.length = nl + outs.length
  loc : ∀ p ∈ C'.slots.take nl, p.2 = .local
  out : C'.slots.drop nl = outs.map (fun i => (nameAt C i, NameKind.free))
  cel : ∀ i ∈ outs, ∃ y, C.slots[i]? = some (y, .cell)
noncomputable def compB (C C' : Nm) (sc : Scope) (nl : Nat) (outs : List Nat) : Bool :=
  nmB C' sc && sc.names.all (fun x => x.2 != .cell) && sc.names.all (fun x => x.2 != .local || sc.names.lookup x.1 == some .local) && sc.names.all (fun x => x.2 != .free || C.slots.any (fun q => q.1 == x.1 && q.2 == .cell)) &&
  decide (C'.slots.length = nl + outs.length) && (C'.slots.take nl).all (fun p => p.2 == .local) && (C'.slots.drop nl == outs.map (fun i => (nameAt C i, NameKind.free))) && outs.all (fun i => match C.slots[i]? with | some (_, .cell) => true | _ => false)
theorem CompOK.of {C C' : Nm} {sc : Scope} {nl : Nat} {outs : List Nat} (h : compB C C' sc nl outs = true) : CompOK C C' sc nl outs := by
  unfold compB at h
  simp only [Bool.and_eq_true, List.all_eq_true, beq_iff_eq, decide_eq_true_eq, Bool.or_eq_true, bne_iff_ne, ne_eq, List.any_eq_true] at h
  refine sA h fun z49 i => ?_; try clear h; refine sA z49 fun z50 g => ?_; try clear z49; refine sA z50 fun z51 f => ?_; try clear z50; refine sA z51 fun z52 e => ?_; try clear z51; refine sA z52 fun z53 d => ?_; try clear z52; refine sA z53 fun z54 c => ?_; try clear z53; refine sA z54 fun a b => ?_; try clear z54
  refine ⟨NmOK.of a, b, fun x m k => (c x m).resolve_left (fun z => z k), fun x m k => ?_, e, f, g, fun j m => ?_⟩
  · refine sEAA ((d x m).resolve_left (fun z => z k)) fun q mq e1 e2 => ?_
    obtain ⟨q1, q2⟩ := q
    dsimp only at e1 e2
    subst e1 e2
    exact mq
  · have := i j m
    (refine Classical.byContradiction fun hnn => ?_; split at (this) <;> (refine hnn ?_; clear hnn))
    · rename_i y hy; exact ⟨y, hy⟩
    · exact nn2 this
noncomputable def pick (σ : List SV) : List Nat → Option (List SV)
  | [] => some []
  | i :: r => match σ[i]? with
    | some (.val v) => match pick σ r with
      | some τ => some (.val v :: τ)
      | none => none
    | _ => none
noncomputable def pickC (cs : List CS) (outs : List Nat) : List CS := outs.map fun i => (cs[i]?).getD .unset
section
variable {u : U} {n : Nat} {C : Nm}
theorem pick_get {d : Dy} {σ : List SV} {h : Heap} {cs : List CS} (I : Inv C d σ h cs) : ∀ {outs : List Nat} {τ : List SV}, pick σ outs = some τ → τ.length = outs.length ∧ ∀ (j : Nat) (sv : SV) (c : CS), τ[j]? = some sv → (pickC cs outs)[j]? = some c →
    ∃ i v w, outs[j]? = some i ∧ cs[i]? = some (.val w) ∧ sv = .val v ∧ c = .val w ∧ R (hideAll h (hid C d cs false)) v w
  | [], τ, e => by cases (e); exact ⟨rfl, fun j sv c e => by exact nn0 e⟩
  | i :: r, τ, e => by
    unfold pick at e
    (refine Classical.byContradiction fun hnn => ?_; split at (e) <;> (refine hnn ?_; clear hnn))
    · rename_i v hv
      (refine Classical.byContradiction fun hnn => ?_; split at (e) <;> (refine hnn ?_; clear hnn))
      · rename_i τ' ht
        cases (e)
        refine sA (pick_get I ht) fun g1 g2 => ?_
        refine ⟨by rw [List.length_cons, List.length_cons, g1], fun j sv c e1 e2 => ?_⟩
        cases j with
        | zero =>
          cases (e1)
          refine sEA (I.slotAt hv) fun cc hcc sr => ?_
          have : (pickC cs (i :: r))[0]? = some cc := by
            show some ((cs[i]?).getD .unset) = _
            rw [hcc]; rfl
          rw [this] at e2; cases (e2)
          refine SR.valC sr fun w eqx rr => ?_
          clear sr; cases (eqx)
          exact ⟨i, v, w, rfl, hcc, rfl, rfl, rr⟩
        | succ j => exact g2 j sv c e1 e2
      · exact nn0 e
    · exact nn0 e
theorem adrs_nil {cs : List CS} (h : ∀ c ∈ cs, c.adr = []) : adrs cs = [] := by
  unfold adrs
  rw [List.flatMap_eq_nil_iff]
  exact h
theorem comp_main {C' : Nm} {d : Dy} {σ : List SV} {s : Shared} {cs : List CS} {elt : PySem.Expr} {rest : List Comprehension} {scope : Scope} {pos : Pos} {nl : Nat} {outs : List Nat} {g : XG u n C'} {a : XE u n C} {t : Option (XT u n C')} {body : XCB u n C'} {cl : List (Str × Addr)}
    {v : V} {xs zs : List V} {τ τ' : List SV} {E : Value → Shared → Prop} {RR : Value → Addr → Result → Shared → Prop}
    (hc : CompOK C C' scope nl outs) (hturn : ∀ it acc env, compTurn (.ListComp elt (⟨g.t, a.e, ifsOf t, 0⟩ :: rest) scope pos) 0 it acc env = turnForm (.ListComp elt (⟨g.t, a.e, ifsOf t, 0⟩ :: rest) scope pos) 0 g.t a.e.pos (ifsOf t) (body.go env acc) it acc env)
    (hgo : ∀ it v, letOwnedTupleGo g.t it v = pure ()) (hcl : ∀ x ∈ scope.names, x.2 = .free → cl.lookup x.1 = d.env.cells.lookup x.1)
    (D : DOk u n C d) (I : Inv C d σ s.heap cs) {bf : Bool} (ha : a.den σ = some (v, bf)) (hbf : bf = true → xs.all V.flat = true) (hx : iterV v = some xs) (hp : pick σ outs = some τ) (hloop : compD g.den (testD t) body.den xs (List.replicate nl .unset ++ τ) = some (τ', zs)) (hlen : zs.length ≤ 2 ^ 22)
    (hRR : ∀ (s' : Shared) (acc L : Addr) (f : Flow) (us : List Value) (m : Str → Option Value), Kp s s' → s.heap.get? acc = none → s.heap.get? L = none → acc ≠ L → s'.heap.Ns L m → s'.heap.IsList acc us.toArray → Rs (hideAll s'.heap (hid C d cs false ++ [L])) zs us → RR (.ref acc) L (.ok f) s') :
    wpAny (model u.prog u.w) d.A (eval a.e d.env) (fun x s₁ => wpAny (model u.prog u.w) d.A (pyIter x) (fun it s₂ => wpAny (model u.prog u.w) d.A (newList []) (fun acc s₃ =>
      wpAny (model u.prog u.w) d.A (newFunctionEnv scope d.env.globals cl [] d.env.qual none .none (some d.env)) (fun cenv s₄ =>
        codeAny (model u.prog u.w) d.A (.compStart (.ListComp elt (⟨g.t, a.e, ifsOf t, 0⟩ :: rest) scope pos) 0 it acc { cenv with scope := relabel scope d.env }) (RR acc cenv.locals) s₄) E s₃) E s₂) E s₁) E s := by
  refine wpAny_mono (a.snd σ v bf ha d s cs D I) (fun x s₁ q => ?_) fun _ _ f => f.elim
  have I1 := I.keeps q.1.le
  refine wpAny_mono (iter_ok D.room.handled hx q.2) (fun it s₂ z => ?_) fun _ _ f => f.elim
  obtain ⟨k2, fp, P, St, rfl, W, St0, hn, hfp, hal, _, hP0⟩ := z
  have hP : ∀ (i : Nat) (v : Value), i < xs.length → P i v → ∃ y, xs[i]? = some y ∧ R (hideAll s₁.heap (hid C d cs false)) y v := fun i v hi hp => by
    refine sEA (hP0 i v hi hp) fun y hy hr => ?_
    refine ⟨y, hy, ?_⟩
    cases bf with
    | false => exact hr
    | true => exact hr.of_flat (List.all_eq_true.mp (hbf rfl) y (List.mem_of_getElem? hy))
  refine wpAny_newObj_type (wpAny_newFunctionEnv hc.noCell (by intro y m; exact nn4 m) (fun h₄ hns hsame => ?_) hc.nm.kind)
  dsimp only at hns hsame ⊢
  refine sEA (hal _ _ St0) fun oa hoa hoc => ?_
  generalize hH : s₂.heap.push { cls := .type "list", dict := none, data := .seq ([] : List Value).toArray } = H at hns hsame ⊢
  have hsz : H.objs.size = s₂.heap.objs.size + 1 := by rw [← hH, Heap.size_push]
  have haL : s₁.heap.objs.size < s₂.heap.objs.size := Heap.lt_size hoa
  have fA : s₁.heap.get? s₁.heap.objs.size = none := fresh_size _
  have fr : ∀ b, s₁.heap.objs.size ≤ b → s₁.heap.get? b = none := fun b q => by
    cases e : s₁.heap.get? b with
    | none => rfl
    | some o => exact absurd (Heap.lt_size e) (Nat.not_lt.mpr q)
  have fAcc : s₁.heap.get? s₂.heap.objs.size = none := fr _ (Nat.le_of_lt haL)
  have fL : s₁.heap.get? H.objs.size = none := fr _ (by rw [hsz]; exact Nat.le_succ_of_le (Nat.le_of_lt haL))
  have up : ∀ b o, b ≠ H.objs.size → s₂.heap.get? b = some o → h₄.get? b = some o := fun b o nb e => hsame.extBut b o nb (Heap.get?_push_of_some _ (hH ▸ Heap.get?_push_of_some _ e))
  have up1 : Le s₁.heap h₄ := fun b o e => up b o (fun q => by rw [q, fL] at e; exact nn0 e) (k2.le b o e)
  have hneA : s₁.heap.objs.size ≠ H.objs.size := by rw [hsz]; exact Nat.ne_of_lt (Nat.lt_succ_of_lt haL)
  have hneAcc : s₂.heap.objs.size ≠ H.objs.size := by rw [hsz]; exact Nat.ne_of_lt (Nat.lt_succ_self _)
  have hacc : h₄.get? s₂.heap.objs.size = some { cls := .type "list", dict := none, data := .seq ([] : List Value).toArray } := hsame.extBut _ _ hneAcc (Heap.get?_push_of_some _ (hH ▸ Heap.get?_push_size _ rfl))
  have ha4 : h₄.get? s₁.heap.objs.size = some oa := up _ _ hneA hoa
  refine sEA I1.ns fun m0 hns0 hst0 => ?_
  refine sA (pick_get I1 hp) fun hplen hpget => ?_
  -- the frame within
  have hkind : ∀ y k, scope.names.lookup y = some k → k ≠ .free → (compEnvC scope cl H.objs.size d.env).kindOf y = some k := fun y k e nk => by
    show (relabel scope d.env).names.lookup y = _
    rw [relabel_lookup, e]
    rw [Option.map_some, if_neg]
    rw [beq_eq_false_iff_ne.mpr nk]
    exact fun q => by exact nn2 q
  have hfree : ∀ y, scope.names.lookup y = some .free → (compEnvC scope cl H.objs.size d.env).kindOf y = some .free ∨ (compEnvC scope cl H.objs.size d.env).kindOf y = some .cell := fun y e => by
    have h1 : (compEnvC scope cl H.objs.size d.env).kindOf y = _ := relabel_lookup (env := d.env) (scope := scope) y
    rw [e, Option.map_some] at h1
    (refine Classical.byContradiction fun hnn => ?_; split at (h1) <;> (refine hnn ?_; clear hnn))
    · exact .inr h1
    · exact .inl h1
  have slotKind : ∀ p ∈ C'.slots, p.2 = .local ∨ (p.2 = .free ∧ (p.1, NameKind.cell) ∈ C.slots ∧ cl.lookup p.1 = d.env.cells.lookup p.1) := fun p m => by
    have hm : p ∈ C'.slots.take nl ++ C'.slots.drop nl := by rw [List.take_append_drop]; exact m
    rcases List.mem_append.mp hm with m1 | m1
    · exact .inl (hc.loc p m1)
    · rw [hc.out] at m1
      refine sEA (List.mem_map.mp m1) fun i mi z55 => ?_; (first | subst z55 | cases (z55))
      refine sE (hc.cel i mi) fun y hy => ?_
      have hn : nameAt C i = y := by unfold nameAt; rw [hy]
      rw [hn] at m ⊢
      refine .inr ⟨rfl, List.mem_of_getElem? hy, ?_⟩
      have hl := hc.nm.kinds _ m
      have : (y, NameKind.free) ∈ scope.names := by
        have e : scope.names.lookup y = some .free := hl
        rw [List.lookup_eq_some_iff] at e
        have z56 := e; clear e; refine sEEA z56 fun l1 l2 e _ => ?_; clear z56
        rw [e]; simp
      exact hcl _ this rfl
  have EN : EnvOK C' (compEnvC scope cl H.objs.size d.env) := by
    refine ⟨hc.nm.kind, D.env.globals, D.env.builtins, fun p m => ?_, fun y m => hkind y _ (hc.nm.globs y m) (fun z => by cases (z)), fun p m => ?_, fun p m1 q m2 n1 n2 c e1 e2 => ?_, hc.nm.nodup, hc.nm.noClass⟩
    · rcases slotKind p m with z | ⟨z, _, _⟩
      · exact .inl (hkind _ _ (hc.nm.kinds p m) (by rw [z]; exact fun q => by cases (q)))
      · have := hc.nm.kinds p m
        rw [z] at this
        rcases hfree _ this with w | w
        · exact .inl (by rw [z]; exact w)
        · exact .inr ⟨z, w⟩
    · rcases slotKind p m with z | ⟨z, _, _⟩
      · exact .inl z
      · exact .inr (.inr z)
    · rcases slotKind p m1 with z | ⟨z, y1, g1⟩
      · exact absurd z n1
      · rcases slotKind q m2 with z' | ⟨z', y2, g2⟩
        · exact absurd z' n2
        · exact D.env.dist (p.1, .cell) y1 (q.1, .cell) y2 (fun z => by cases (z)) (fun z => by cases (z)) c (g1 ▸ e1) (g2 ▸ e2)
  have D' : DOk u n C' { hb := d.hb, he := s₁.heap, A := d.A, W := hid C d cs false, env := compEnvC scope cl H.objs.size d.env } :=
    ⟨EN, D.base, (I1.leB D).le, D.room, I1.alive' D false, by
      show d.hb.objs.size ≤ H.objs.size
      have := (I1.leB D).size
      rw [hsz]
      exact Nat.le_succ_of_le (Nat.le_trans this (Nat.le_of_lt haL))⟩
  have cellNil : cellA (compEnvC scope cl H.objs.size d.env) C' = [] := by
    unfold cellA
    rw [List.filterMap_eq_nil_iff]
    intro p m
    rw [if_neg]
    rcases slotKind p m with z | ⟨z, _, _⟩ <;> rw [z] <;> exact fun q => by cases (q)
  have adrNil : ∀ c ∈ List.replicate nl CS.unset ++ pickC cs outs, c.adr = [] := fun c m => by
    rcases List.mem_append.mp m with m | m
    · rw [(List.mem_replicate.mp m).2]; rfl
    · obtain ⟨j, hj, e⟩ := List.getElem_of_mem m
      have e1 : (pickC cs outs)[j]? = some c := by rw [List.getElem?_eq_getElem hj, e]
      have hj2 : j < τ.length := by rw [hplen]; simpa [pickC] using hj
      obtain ⟨_, _, w, _, _, _, rfl, _⟩ := hpget j _ c (List.getElem?_eq_getElem hj2) e1
      rfl
  have adrsNil := adrs_nil adrNil
  have wrE : wr C' { hb := d.hb, he := s₁.heap, A := d.A, W := hid C d cs false, env := compEnvC scope cl H.objs.size d.env } (List.replicate nl CS.unset ++ pickC cs outs) = [H.objs.size] := by
    unfold wr
    show H.objs.size :: (cellA (compEnvC scope cl H.objs.size d.env) C' ++ _) = _
    rw [cellNil, adrsNil]; rfl
  have vis : Le (hideAll s₁.heap (hid C d cs false)) (hideAll h₄ (([s₁.heap.objs.size, s₂.heap.objs.size] ++ hid C d cs false) ++ [H.objs.size])) := Le.hides fun b o e nn => ⟨up1 b o e, fun m => by
    rcases List.mem_append.mp m with m | m
    · rcases List.mem_append.mp m with m | m
      · rcases List.mem_cons.mp m with m | m
        · rw [m, fA] at e; exact nn0 e
        · rw [List.mem_singleton.mp m, fAcc] at e; exact nn0 e
      · exact nn m
    · rw [List.mem_singleton.mp m, fL] at e; exact nn0 e⟩
  have S : CSt C' { hb := d.hb, he := s₁.heap, A := d.A, W := hid C d cs false, env := compEnvC scope cl H.objs.size d.env } [s₁.heap.objs.size, s₂.heap.objs.size] s₂.heap.objs.size (List.replicate nl SV.unset ++ τ) h₄ (List.replicate nl CS.unset ++ pickC cs outs) [] [] := by
    refine ⟨⟨⟨_, hns, fun j p c e1 e2 => ?_⟩, ?_, ?_, fun j sv c e1 e2 => ?_, up1, ?_, ?_, ?_, ?_, ?_⟩, ⟨fun b m => ?_, fun b m => ?_, fun b m => ?_⟩, ⟨_, hacc, rfl, 0, rfl⟩, .nil⟩
    · rcases Nat.lt_or_ge j nl with q | q
      · have hp2 : p.2 = .local := hc.loc p (List.mem_of_getElem? (i := j) (by rw [List.getElem?_take_of_lt q]; exact e1))
        rw [List.getElem?_append_left (by rw [List.length_replicate]; exact q), List.getElem?_replicate, if_pos q] at e2
        cases (e2)
        unfold Stored
        rw [hp2]; rfl
      · rw [List.getElem?_append_right (by rw [List.length_replicate]; exact q), List.length_replicate] at e2
        have hj2 : j - nl < τ.length := by
          rw [hplen]
          rcases Nat.lt_or_ge (j - nl) outs.length with z | z
          · exact z
          · rw [List.getElem?_eq_none (by simpa [pickC] using z)] at e2; exact nn0 e2
        obtain ⟨i, v', w, ho, hcw, _, rfl, _⟩ := hpget _ _ c (List.getElem?_eq_getElem hj2) e2
        have hsl : (C'.slots.drop nl)[j - nl]? = some p := by rw [List.getElem?_drop, Nat.add_sub_cancel' q]; exact e1
        rw [hc.out, List.getElem?_map, ho] at hsl
        refine sE (hc.cel i (List.mem_of_getElem? ho)) fun y hy => ?_
        have hn : nameAt C i = y := by unfold nameAt; rw [hy]
        rw [Option.map_some, hn] at hsl
        cases (hsl)
        refine sEA (hst0 i _ _ hy hcw) fun ca h1 h2 => ?_
        refine ⟨ca, ?_, h2.keeps up1⟩
        have m : (y, NameKind.free) ∈ C'.slots := List.mem_of_getElem? e1
        rcases slotKind _ m with z | ⟨_, _, g⟩
        · cases (z)
        · exact g.trans h1
    · rw [List.length_append, List.length_replicate, hplen, hc.len]
    · rw [List.length_append, List.length_replicate, hc.len]; simp [pickC]
    · show SR h₄ (hideAll h₄ (([s₁.heap.objs.size, s₂.heap.objs.size] ++ hid C d cs false) ++ wr C' { hb := d.hb, he := s₁.heap, A := d.A, W := hid C d cs false, env := compEnvC scope cl H.objs.size d.env } (List.replicate nl CS.unset ++ pickC cs outs))) sv c
      rw [wrE]
      rcases Nat.lt_or_ge j nl with q | q
      · rw [List.getElem?_append_left (by rw [List.length_replicate]; exact q), List.getElem?_replicate, if_pos q] at e1 e2
        cases (e1); (refine inj1 e2 ?_; clear e2); exact .unset
      · rw [List.getElem?_append_right (by rw [List.length_replicate]; exact q), List.length_replicate] at e1 e2
        obtain ⟨i, v', w, ho, hcw, rfl, rfl, rr⟩ := hpget _ _ c e1 e2
        exact .val (rr.mono vis)
    · show ∀ b ∈ wr C' { hb := d.hb, he := s₁.heap, A := d.A, W := hid C d cs false, env := compEnvC scope cl H.objs.size d.env } (List.replicate nl CS.unset ++ pickC cs outs), _
      rw [wrE]; intro b m; rw [List.mem_singleton.mp m]; exact fL
    · show H.objs.size ∉ cellA (compEnvC scope cl H.objs.size d.env) C' ++ _
      rw [cellNil, adrsNil]; exact fun m => by exact nn4 m
    · show ∀ b ∈ cellA (compEnvC scope cl H.objs.size d.env) C', _
      rw [cellNil]; exact fun b m => by exact nn4 m
    · intro i j c c' _ e1 _ b m
      rw [adrNil c (List.mem_of_getElem? e1)] at m; exact nn4 m
    · intro i x dx e1
      have := adrNil _ (List.mem_of_getElem? e1)
      cases (this)
    · rcases List.mem_cons.mp m with m | m
      · rw [m]; exact ⟨oa, ha4, hoc⟩
      · rw [List.mem_singleton.mp m]; exact ⟨_, hacc, fun v z => by cases (z)⟩
    · rw [wrE]
      rcases List.mem_cons.mp m with m | m
      · rw [m]; exact fun z => hneA (List.mem_singleton.mp z)
      · rw [List.mem_singleton.mp m]; exact fun z => hneAcc (List.mem_singleton.mp z)
    · rcases List.mem_cons.mp m with m | m
      · rw [m]; exact fA
      · rw [List.mem_singleton.mp m]; exact fAcc
  have fpB : ∀ b ∈ fp, b ≠ s₁.heap.objs.size → ∃ o, s₁.heap.get? b = some o ∧ b ∉ hid C d cs bf := fun b m ne => by
    rcases hfp b m with z | ⟨z1, z2⟩
    · exact absurd z ne
    · cases e : s₁.heap.get? b with
      | none => exact absurd e z1
      | some o => exact ⟨o, rfl, z2⟩
  have St4 : St 0 h₄ := W.frame _ _ _ St0 fun b m o e => by
    by_cases z : b = s₁.heap.objs.size
    · rw [z] at e ⊢; exact up _ _ hneA e
    · refine sEA (fpB b m z) fun o' e' _ => ?_
      exact up b o (fun z => by rw [z, fL] at e'; exact nn0 e') e
  refine codeAny_mono (compStart_ok (A := d.A) (env := compEnvC scope cl H.objs.size d.env) rfl (comp_core (C := C') (d := { hb := d.hb, he := s₁.heap, A := d.A, W := hid C d cs false, env := compEnvC scope cl H.objs.size d.env }) (X := [s₂.heap.objs.size]) (E := fun _ _ => False) hturn hgo D' (List.mem_singleton.mpr rfl) (fun z => Nat.ne_of_lt haL (List.mem_singleton.mp z)) S W St4 (fun b m => ?_) hal (fun i v hi hp => ?_) hloop (by simpa using hlen)) fun Q E hq => W.self 0 _ _ _ St4 hq) fun r s' z => ?_
  · by_cases z : b = s₁.heap.objs.size
    · exact .inl z
    · refine sEA (fpB b m z) fun o' e' _ => ?_
      refine .inr ⟨fun w => (by have e2 := up1 b o' e'; rw [show h₄.get? b = none from w] at e2; exact nn0 e2), fun w => (by rw [w, fAcc] at e'; exact nn0 e'), ?_⟩
      rw [wrE]; exact fun w => by rw [List.mem_singleton.mp w, fL] at e'; exact nn0 e'
  · refine sEA (hP i v hi hp) fun y hy hr => ?_
    refine ⟨y, hy, ?_⟩
    show R (hideAll h₄ (([s₁.heap.objs.size, s₂.heap.objs.size] ++ hid C d cs false) ++ wr C' { hb := d.hb, he := s₁.heap, A := d.A, W := hid C d cs false, env := compEnvC scope cl H.objs.size d.env } (List.replicate nl CS.unset ++ pickC cs outs))) y v
    rw [wrE]; exact hr.mono vis
  · cases r with
    | error e => exact z.elim
    | ok f =>
      refine sAEEA z fun sm cs' us' S' rest' => ?_; try clear z
      refine sEA S'.I.ns fun m' hns' _ => ?_
      refine sEE sm fun hk tk z57 => ?_; try clear sm; (first | subst z57 | cases (z57))
      have kp : Kp s ⟨hk, s.gens, s.drawn, tk, s.os⟩ := by
        refine sEEA q.1 fun h1 t1 e1 le1 => ?_
        exact ⟨hk, tk, rfl, fun b o e => S'.I.keep b o (q.1.le b o e)⟩
      have eqs : { heap := hk, gens := s₂.gens, drawn := s₂.drawn, toks := tk, os := s₂.os } = (⟨hk, s.gens, s.drawn, tk, s.os⟩ : Shared) := by
        refine sEEA q.1 fun h1 t1 e1 _ => ?_
        refine sEEA k2 fun h2 t2 e2 _ => ?_; try clear k2
        rw [e2, e1]
      show RR _ _ _ { heap := hk, gens := s₂.gens, drawn := s₂.drawn, toks := tk, os := s₂.os }
      rw [eqs]
      have nn := q.1.le
      refine hRR _ _ _ _ us' m' kp ?_ ?_ hneAcc hns' S'.l (S'.r.mono (Le.hides_sub fun b m => ?_))
      · cases e : s.heap.get? s₂.heap.objs.size with
        | none => rfl
        | some o => have := nn _ _ e; rw [fAcc] at this; exact nn0 this
      · show s.heap.get? H.objs.size = none
        cases e : s.heap.get? H.objs.size with
        | none => rfl
        | some o => have := nn _ _ e; rw [fL] at this; exact nn0 this
      · rcases List.mem_append.mp m with m | m
        · exact List.mem_append_left _ (List.mem_append_right _ m)
        · exact List.mem_append_right _ (List.mem_singleton.mp m ▸ List.mem_cons_self)
end
section
variable {u : U} {n : Nat} {C : Nm}
theorem Kp.trans' {s s' : Shared} {h' : Heap} {L : Addr} (k : Kp s s') (k' : ∀ b o, b ≠ L → s'.heap.get? b = some o → h'.get? b = some o) (fl : s.heap.get? L = none) : Kp s { s' with heap := h' } := by
  refine sEEA k fun h1 t1 z58 e1 => ?_; try clear k; (first | subst z58 | cases (z58))
  exact ⟨h', t1, rfl, fun b o e => k' b o (fun q => by rw [q, fl] at e; exact nn0 e) (e1 b o e)⟩
theorem EnvOK.block {env : Env} (e : EnvOK C env) : env.blockKind = .function := by
  unfold Env.blockKind
  simp [e.kind]
theorem cells_of {C' : Nm} {d : Dy} {σ : List SV} {h : Heap} {cs : List CS} {scope : Scope} {nl : Nat} {outs : List Nat} (hc : CompOK C C' scope nl outs) (I : Inv C d σ h cs) : ∀ x ∈ scope.names, x.2 = .free → ∃ a, d.env.cells.lookup x.1 = some a := fun x m k => by
  have hm := hc.free x m k
  obtain ⟨i, hi, e⟩ := List.getElem_of_mem hm
  refine sE (get_of_len I.lenC hi) fun c hcc => ?_
  refine sEA I.ns fun _ _ hst => ?_
  refine sEA (hst i (x.1, .cell) c (by rw [List.getElem?_eq_getElem hi, e]) hcc) fun ca h1 _ => ?_
  exact ⟨ca, h1⟩
noncomputable def compDen {u : U} {n : Nat} {C C' : Nm} (nl : Nat) (outs : List Nat) (g : XG u n C') (a : XE u n C) (t : Option (XT u n C')) (body : XCB u n C') (σ : List SV) : Option (List V) :=
  match a.den σ with
    | some (v, bf) => match iterV v with
      | some xs => if !bf || xs.all V.flat then match pick σ outs with
        | some τ => match compD g.den (testD t) body.den xs (List.replicate nl .unset ++ τ) with
          | some (_, zs) => if lenOk zs.length then some zs else none
          | none => none
        | none => none
        else none
      | none => none
    | _ => none
theorem compDen_of {C' : Nm} {nl : Nat} {outs : List Nat} {g : XG u n C'} {a : XE u n C} {t : Option (XT u n C')} {body : XCB u n C'} {σ : List SV} {zs : List V} (h : compDen nl outs g a t body σ = some zs) :
    ∃ v bf xs τ τ', a.den σ = some (v, bf) ∧ (bf = true → xs.all V.flat = true) ∧ iterV v = some xs ∧ pick σ outs = some τ ∧ compD g.den (testD t) body.den xs (List.replicate nl .unset ++ τ) = some (τ', zs) ∧ zs.length ≤ 2 ^ 22 := by
  unfold compDen at h
  (refine Classical.byContradiction fun hnn => ?_; split at (h) <;> (refine hnn ?_; clear hnn))
  · rename_i v bf ha
    (refine Classical.byContradiction fun hnn => ?_; split at (h) <;> (refine hnn ?_; clear hnn))
    · rename_i xs hx
      (refine Classical.byContradiction fun hnn => ?_; split at (h) <;> (refine hnn ?_; clear hnn))
      · rename_i hb
        (refine Classical.byContradiction fun hnn => ?_; split at (h) <;> (refine hnn ?_; clear hnn))
        · rename_i τ hp
          (refine Classical.byContradiction fun hnn => ?_; split at (h) <;> (refine hnn ?_; clear hnn))
          · rename_i τ' zs' hl
            (refine Classical.byContradiction fun hnn => ?_; split at (h) <;> (refine hnn ?_; clear hnn))
            · rename_i hlen
              cases (h)
              have := of_decide_eq_true hlen
              exact ⟨v, bf, xs, τ, τ', ha, fun q => by rw [q] at hb; simpa using hb, hx, hp, hl, by omega⟩
            · exact nn0 h
          · exact nn0 h
        · exact nn0 h
      · exact nn0 h
    · exact nn0 h
  · exact nn0 h
end
namespace XE
variable {u : U} {n : Nat} {C : Nm}
noncomputable def listComp {C' : Nm} (nl : Nat) (outs : List Nat) (elt : PySem.Expr) (rest : List Comprehension) (scope : Scope) (pos : Pos) (g : XG u n C') (a : XE u n C) (t : Option (XT u n C')) (body : XCB u n C')
    (hc : CompOK C C' scope nl outs) (hturn : ∀ it acc env, compTurn (.ListComp elt (⟨g.t, a.e, ifsOf t, 0⟩ :: rest) scope pos) 0 it acc env = turnForm (.ListComp elt (⟨g.t, a.e, ifsOf t, 0⟩ :: rest) scope pos) 0 g.t a.e.pos (ifsOf t) (body.go env acc) it acc env)
    (hgo : ∀ it v, letOwnedTupleGo g.t it v = pure ()) (hs : ∀ env x, foldedSetIterable a.e env x = pure x) : XE u n C where
  e := .ListComp elt (⟨g.t, a.e, ifsOf t, 0⟩ :: rest) scope pos
  den σ := match compDen nl outs g a t body σ with
    | some zs => some (.list zs, false)
    | .none => .none
  snd := by
    intro σ v b h d s cs D I
    (refine Classical.byContradiction fun hnn => ?_; split at (h) <;> (refine hnn ?_; clear hnn))
    · rename_i zs hz
      cases (h)
      obtain ⟨v, bf, xs, τ, τ', ha, hbf, hx, hp, hl, hlen⟩ := compDen_of hz
      refine sEA (closure_of (cells_of hc I)) fun cl e1 e2 => ?_
      rw [eval_ListComp]
      refine wpAny_comprehension_free (use := Option.none) rfl (hs _) e1 hc.nm.kind hc.names (comp_main hc hturn hgo e2 D I ha hbf hx hp hl hlen fun s' acc L f us m kp fa fl ne hns hlist hr => ?_)
      refine ⟨m, hns, fun h' hsame => ?_⟩
      have k' : ∀ b o, b ≠ L → s'.heap.get? b = some o → h'.get? b = some o := fun b o nb e => hsame.extBut b o nb e
      refine ⟨kp.trans' k' fl, .list (vs := us) ?_ (hr.mono (Le.hides fun b o e nn => ⟨k' b o (fun q => nn (List.mem_append_right _ (q ▸ List.mem_singleton.mpr rfl))) e, fun q => nn (List.mem_append_left _ q)⟩))⟩
      refine sEA hlist fun o e z => ?_; try clear hlist
      exact ⟨o, hideAll_get _ (k' _ _ ne e) (fun q => I.alive' D false _ q fa), z⟩
    · exact nn0 h
end XE
namespace X1
variable {u : U} {n : Nat} {C : Nm}
noncomputable def assignComp {C' : Nm} (i : Nat) (x : Str) (hx : C.slots[i]? = some (x, .local)) (p1 p : Pos) (nl : Nat) (outs : List Nat) (elt : PySem.Expr) (rest : List Comprehension) (scope : Scope) (pos : Pos) (g : XG u n C') (a : XE u n C) (t : Option (XT u n C')) (body : XCB u n C')
    (hc : CompOK C C' scope nl outs) (hturn : ∀ it acc env, compTurn (.ListComp elt (⟨g.t, a.e, ifsOf t, 0⟩ :: rest) scope pos) 0 it acc env = turnForm (.ListComp elt (⟨g.t, a.e, ifsOf t, 0⟩ :: rest) scope pos) 0 g.t a.e.pos (ifsOf t) (body.go env acc) it acc env)
    (hgo : ∀ it v, letOwnedTupleGo g.t it v = pure ()) (hs : ∀ env x, foldedSetIterable a.e env x = pure x)
    (hline : (p1.line == pos.line) = true) (hno : (scope.names.any fun (y, k) => y == x && (k == .local || k == .cell)) = false) : X1 u n C where
  st := .Assign [.Name x p1] (.ListComp elt (⟨g.t, a.e, ifsOf t, 0⟩ :: rest) scope pos) p
  den σ := match compDen nl outs g a t body σ with
    | some zs => some (.next, σ.set i (.val (.list zs)))
    | .none => .none
  snd := by
    intro σ fl σ' h d s cs D I
    (refine Classical.byContradiction fun hnn => ?_; split at (h) <;> (refine hnn ?_; clear hnn))
    · rename_i zs hz
      cases (h)
      obtain ⟨v, bf, xs, τ, τ', ha, hbf, hxx, hp, hl, hlen⟩ := compDen_of hz
      refine sEA (closure_of (cells_of hc I)) fun cl e1 e2 => ?_
      have hk : d.env.kindOf x = some .local := (D.env.kinds _ (List.mem_of_getElem? hx)).resolve_right fun z => by cases z.1
      have hsw : swapsWith (.ListComp elt (⟨g.t, a.e, ifsOf t, 0⟩ :: rest) scope pos) (some (.Name x p1)) p.line d.env = pure true := by
        show (pure (d.env.blockKind == .function && d.env.kindOf x == some .local && p1.line == pos.line && !(scope.names.any fun (y, k) => y == x && (k == .local || k == .cell))) : Sem Bool) = pure true
        have hb : d.env.blockKind = .function := D.env.block
        rw [hb, hk, hline, hno]; rfl
      show wpAny _ _ (exec (Stmt.Assign _ _ _) _) _ _ _
      rw [exec_Assign_Name_used _ _ _ _ hsw]
      refine wpAny_bind (wpAny_standAt (wpAny_bind ?_))
      show wpAny _ d.A (do let _ ← comprehension (.ListComp elt (⟨g.t, a.e, ifsOf t, 0⟩ :: rest) scope pos) scope d.env _ (newList []) false (eval a.e d.env) (some (PySem.assign (.Name x p1) d.env))) _ _ s
      refine wpAny_bind (wpAny_mono (wpAny_comprehension_free (use := some (PySem.assign (.Name x p1) d.env)) (Q := fun _ s' => Sm s s' ∧ ∃ cs', Inv C d (σ.set i (.val (.list zs))) s'.heap cs') (E := NoE) rfl (hs _) e1 hc.nm.kind hc.names
        (comp_main hc hturn hgo e2 D I ha hbf hxx hp hl hlen fun s' acc L f us m kp fa flL ne hns hlist hr => ?_)) (fun _ s' hq => wpAny_pure (wpAny_pure ⟨hq.1, hq.2.elim fun cs' I' => ⟨cs', I', rfl⟩⟩)) fun _ _ f => f)
      show wpAny _ d.A (PySem.assign (.Name x p1) d.env (.ref acc)) _ _ s'
      have al := I.alive D
      have hLw : L ∉ wr C d cs := fun q => al L (List.mem_append_right _ q) flL
      refine sEEEAA (id hns) fun oL esL epL eL dL _ => ?_
      have vis : Le (hideAll s.heap (d.W ++ wr C d cs)) (hideAll s'.heap (([L] ++ d.W) ++ wr C d cs)) := Le.hides fun b o e nn => ⟨kp.le b o e, fun q => by
        rcases List.mem_cons.mp q with q | q
        · rw [q, flL] at e; exact nn0 e
        · exact nn q⟩
      have I2 : Inv C (d.plus [L]) σ s'.heap cs := I.move (d' := d.plus [L]) rfl rfl (fun b o _ e => kp.le b o e) (fun b o _ e => kp.le b o e) vis (I.keep.trans kp.le) I.fresh
      have X2 : XOK C d [L] s'.heap cs := ⟨fun b m => by rw [List.mem_singleton.mp m]; exact ⟨oL, eL, fun v z => by rw [dL] at z; cases (z)⟩, fun b m => by rw [List.mem_singleton.mp m]; exact hLw, fun b m => by rw [List.mem_singleton.mp m]; exact I.keep.none flL⟩
      refine sA (loose D I2 X2) fun D3 I3 => ?_
      have hr3 : R (hideAll s'.heap (hid C (d.now C [L] s'.heap cs) cs false)) (.list zs) (.ref acc) := by
        show R (hideAll s'.heap (([L] ++ d.W) ++ wr C d cs)) (.list zs) (.ref acc)
        refine .list (vs := us) ?_ (hr.mono (Le.hides_sub fun b m => ?_))
        · refine sEA hlist fun o e z => ?_; try clear hlist
          refine ⟨o, hideAll_get _ e (fun q => ?_), z⟩
          rcases List.mem_cons.mp q with q | q
          · exact ne q
          · exact al acc q fa
        · rcases List.mem_cons.mp m with m | m
          · exact List.mem_append_right _ (m ▸ List.mem_singleton.mpr rfl)
          · exact List.mem_append_left _ m
      refine wpAny_assign_Name (wpAny_mono (store_val (d := d.now C [L] s'.heap cs) D3 I3 hx (fun z => by cases (z)) hr3) (fun _ s4 q4 => ?_) fun _ _ f => f)
      refine sAEAA q4 fun sm4 cs4 I4 _ _ => ?_; try clear q4
      refine sAA (loose_back I2 X2 I4) fun I5 X5 rest => ?_
      have hL4 := (rest L oL (fun z => by exact nn4 z) hLw eL).1
      refine ⟨m, ?_, fun h' hsame => ⟨kp.sm.trans (sm4.trans ⟨h', s4.toks, rfl⟩), cs4, ?_⟩⟩
      · refine sEEEA hns fun o es ep g1 g2 => ?_; try clear hns
        rw [g1] at eL; cases (eL)
        exact ⟨_, es, ep, hL4, g2⟩
      · have k' : ∀ b o, b ≠ L → s4.heap.get? b = some o → h'.get? b = some o := fun b o nb e => hsame.extBut b o nb e
        refine I5.move (d' := d) rfl rfl (fun b o m e => k' b o (fun q => X5.off L (List.mem_singleton.mpr rfl) (q ▸ m)) e) (fun b o ⟨v, hv⟩ e => k' b o (fun q => ?_) e) (Le.hides fun b o e nn => ⟨k' b o (fun q => nn (q ▸ List.mem_cons_self)) e, fun m => nn (List.mem_cons_of_mem _ m)⟩) (fun b o e => k' b o (fun q => ?_) (I5.keep b o e)) I5.fresh
        · rw [q, hL4] at e; cases (e); rw [dL] at hv; cases (hv)
        · rw [q, show d.he.get? L = none from I.keep.none flL] at e; exact nn0 e
    · exact nn0 h
end X1
section
variable {u : U} {n : Nat} {C : Nm}
theorem fn_intro2c {fa : Addr} {oc : Value} {od : Option Addr} {osl : Array (Option Value)} {fd : FuncData} {x0 x1 : Str} (body : XS u n C) {a0 a1 : V} {fl : Fl} {σ' : List SV} {v : V}
    (hC : C.slots = [(x0, .local), (x1, .cell)])
    (hK : u.K.lookup fa = some ⟨oc, od, .func fd, osl⟩) (hcode : codeIn u.K fd.code fd.qualname = true) (hbody : fd.body = .stmts body.ss)
    (hnm : NmOK C fd.scope) (hglob : fd.globals = mainGlobals) (hbi : fd.builtins = builtinsNs)
    (hco : fd.scope.isCoroutine = false) (hgen : fd.scope.isGenerator = false) (hclo : fd.closure = [])
    (hcl : ∀ k : Nat, ((cellsFrom k fd.scope.names []).lookup x1).isSome = true)
    (hbind : ∀ v0 v1 : Value, bindArgs fd ⟨[v0, v1], []⟩ = pure [(x0, v0), (x1, v1)])
    (hrun : body.den [.val a0, .val a1] = some (fl, σ')) (hv : fl = .ret v ∨ (fl = .next ∧ v = .none)) : Fn u (n + 1) (.ref fa) [a0, a1] v := by
  intro hb A W s vs B rm le al rs
  refine wpAny_call ?_
  have X : u.K.In s.heap := B.X.keeps le.le
  refine Rs.consC rs fun v0 _ eqx r0 rX => ?_
  clear rs; cases (eqx); revert rX; intro rs
  refine Rs.consC rs fun v1 _ eqx r1 rX => ?_
  clear rs; cases (eqx); revert rX; intro rs
  (refine Rs.nilC rs fun z538 => ?_; clear rs; cases (z538))
  have k0 : fd.scope.names.lookup x0 = some .local := hnm.kinds (x0, .local) (by rw [hC]; exact List.mem_cons_self)
  have k1 : fd.scope.names.lookup x1 = some .cell := hnm.kinds (x1, .cell) (by rw [hC]; exact List.mem_cons_of_mem _ List.mem_cons_self)
  have nd : x0 ≠ x1 := fun q => by rw [q, k1] at k0; cases (k0)
  refine codeAny_call_cells rm.dep (X _ _ hK) rfl (B.lim.keeps le.le) (codeRec_of X hcode) hbody (hbind v0 v1) hclo ?_ (fun s₁ ic => ?_) hco hgen hnm.kind
  · intro x m
    rcases List.mem_cons.mp m with rfl | m
    · exact .inl k0
    · cases List.mem_singleton.mp m
      exact .inr ⟨k1, hcl _⟩
  · generalize hE : callEnvC fd s.heap.objs.size fa = env at ic ⊢
    have eL : env.locals = s.heap.objs.size := by rw [← hE]; rfl
    have eK : ∀ x, env.kindOf x = fd.scope.names.lookup x := fun x => by rw [← hE]; rfl
    have eC : env.cells = cellsFrom (s.heap.objs.size + 1) fd.scope.names [] := by rw [← hE]; rfl
    refine sE (Option.isSome_iff_exists.mp (hcl (s.heap.objs.size + 1))) fun c1 hc1 => ?_
    rw [← eC] at hc1
    have ab := ic.above _ _ (mem_of_lookup hc1)
    have cl1 := ic.cell _ _ hc1
    have q0 : env.kindOf x0 = some .local := (eK x0).trans k0
    have q1 : ¬ env.kindOf x1 = some .local := by rw [eK, k1]; decide
    have hm0 : bindL env.kindOf [(x0, v0), (x1, v1)] (fun _ => none) x0 = some v0 := by
      unfold bindL bindL bindL; rw [if_pos q0, if_neg q1]; exact if_pos rfl
    have hm1 : bindC env.kindOf [(x0, v0), (x1, v1)] (fun _ => none) x1 = some v1 := by
      unfold bindC bindC bindC; rw [if_pos q0, if_neg q1]; exact if_pos rfl
    rw [hm1] at cl1
    refine sEE ic.toInCall.same fun h₁ tk z59 => ?_; (first | subst z59 | cases (z59))
    have up := ic.toInCall.keep
    have fr : ∀ b, s.heap.objs.size ≤ b → s.heap.get? b = none := fun b q => by
      cases e : s.heap.get? b with
      | none => rfl
      | some o => exact absurd (Heap.lt_size e) (Nat.not_lt.mpr q)
    have fL : s.heap.get? env.locals = none := by rw [eL]; exact fresh_size _
    have fC : s.heap.get? c1 = none := fr c1 (by rw [eL] at ab; exact Nat.le_of_lt ab)
    have EN : EnvOK C env := by
      refine ⟨by rw [← hE]; exact hnm.kind, by rw [← hE]; exact hglob, by rw [← hE]; exact hbi, fun p m => .inl ((eK _).trans (hnm.kinds p m)), fun y m => (eK _).trans (hnm.globs y m), hnm.three, fun p _ q _ _ _ c e1 e2 => name_of_addr ic.apart (mem_of_lookup e1) (mem_of_lookup e2), hnm.nodup, hnm.noClass⟩
    have D : DOk u n C { hb := hb, he := s.heap, A := A.deeper env, W := W, env := env } := ⟨EN, B, le.le, rm.deeper, al, by show _ ≤ env.locals; rw [eL]; exact le.size⟩
    have cellE : cellA env C = [c1] := by
      unfold cellA
      rw [hC]
      simp [hc1]
    have wrE : wr C { hb := hb, he := s.heap, A := A.deeper env, W := W, env := env } [.val v0, .val v1] = [env.locals, c1] := by
      unfold wr
      show env.locals :: (cellA env C ++ _) = _
      rw [cellE]; rfl
    have vis : Le (hideAll s.heap W) (hideAll h₁ (W ++ [env.locals, c1])) := Le.hides fun b o e nn => ⟨up b o e, fun m => by
      rcases List.mem_append.mp m with m | m
      · exact nn m
      rcases List.mem_cons.mp m with m | m
      · rw [m, fL] at e; exact nn0 e
      · rw [List.mem_singleton.mp m, fC] at e; exact nn0 e⟩
    have I : Inv C { hb := hb, he := s.heap, A := A.deeper env, W := W, env := env } [.val a0, .val a1] h₁ [.val v0, .val v1] := by
      refine ⟨⟨_, ic.toInCall.ns, fun j p c e1 e2 => ?_⟩, by rw [hC]; rfl, by rw [hC]; rfl, fun j sv c e1 e2 => ?_, up, ?_, ?_, ?_, ?_, ?_⟩
      · rw [hC] at e1
        match j, e1, e2 with
        | 0, e1, e2 => cases (e1); cases (e2); exact hm0
        | 1, e1, e2 => cases (e1); cases (e2); exact ⟨c1, hc1, cl1⟩
      · rw [wrE]
        match j, e1, e2 with
        | 0, e1, e2 => cases (e1); (refine inj1 e2 ?_; clear e2); exact .val (r0.mono vis)
        | 1, e1, e2 => cases (e1); (refine inj1 e2 ?_; clear e2); exact .val (r1.mono vis)
      · rw [wrE]; intro b m
        rcases List.mem_cons.mp m with m | m
        · rw [m]; exact fL
        · rw [List.mem_singleton.mp m]; exact fC
      · show env.locals ∉ cellA env C ++ _
        rw [cellE]; intro m
        exact Nat.ne_of_lt ab (List.mem_singleton.mp m)
      · intro b _ m; exact nn4 m
      · intro i j c c' _ e1 _ b m
        match i, e1 with
        | 0, e1 => cases (e1); exact nn4 m
        | 1, e1 => cases (e1); exact nn4 m
      · intro i x dx e1
        match i, e1 with
        | 0, e1 => cases (e1)
        | 1, e1 => cases (e1)
    refine ex (body.snd _ fl σ' hrun _ { s with heap := h₁, toks := tk } _ D I) fun f s' q => ?_
    refine sAEA q fun z60 cs' I' hf => ?_; try clear q; refine sEE z60 fun h' tk' z61 => ?_; try clear z60; (first | subst z61 | cases (z61))
    refine ⟨⟨h', tk', rfl, I'.keep⟩, ?_⟩
    rcases hv with rfl | ⟨rfl, rfl⟩
    · refine sEA hf fun x z62 hr => ?_; try clear hf; (first | subst z62 | cases (z62))
      exact hr.mono (Le.hides_sub fun a m => List.mem_append_left _ m)
    · cases (hf)
      exact .none
end
namespace XE
variable {u : U} {n : Nat} {C : Nm}
noncomputable def clsAttr (c : Addr) (x : Str) (np : Pos) (e0 : u.G.lookup x = some (.ref c)) (hx : x ∈ C.globs) (hd0 : (x == ("__debug__" : Str)) = false) (name : Str) (p : Pos) {mc : Value} {y : Str} {tk : Tok} (hr : readsIn u.K c mc = true) (e1 : findCls u.K (.ref c) mc name = some (.val (.str y tk))) : XE u n C where
  e := .Attribute (.Name x np) name p
  den _ := some (.str y, false)
  snd := by
    intro σ v b h d s cs D I
    cases (h)
    refine Attribute_any_ (ex ((XE.glob x (.ref c) np e0 hx hd0).snd σ (.raw (.ref c)) false rfl d s cs D I) fun o s₁ q => ?_)
    have I1 := I.keeps q.1.le
    have r := q.2
    (refine R.rawC r fun z559 => ?_; clear r; cases (z559))
    exact cls_value (D.base.X.keeps (I1.leB D).le) hr e1 rfl ⟨q.1.trans (Kp.tok ..), .str _ _⟩
end XE
namespace X1
variable {u : U} {n : Nat} {C : Nm}
noncomputable def swap2 (i j : Nat) (x y : Str) (hi : C.slots[i]? = some (x, .local)) (hj : C.slots[j]? = some (y, .local)) (p1 p2 tp : Pos) (k : Nat) (a : XE u n C) (p : Pos)
    (h1 : ∀ env, swapsWithSole [.Tuple [.Name x p1, .Name y p2] k tp] a.e p.line env = pure false)
    (h2 : ∀ env : Env, env.blockKind = .function → env.kindOf x = some .local → env.kindOf y = some .local → swappedStores [.Tuple [.Name x p1, .Name y p2] k tp] a.e env = pure (some [x, y])) : X1 u n C where
  st := .Assign [.Tuple [.Name x p1, .Name y p2] k tp] a.e p
  den σ := match a.den σ with
    | some (.tup [v, w], false) => some (.next, (σ.set j (.val w)).set i (.val v))
    | _ => none
  snd := by
    intro σ fl σ' h d s cs D I
    (refine Classical.byContradiction fun hnn => ?_; split at (h) <;> (refine hnn ?_; clear hnn))
    · rename_i v w ha
      cases (h)
      have kx : d.env.kindOf x = some .local := (D.env.kinds _ (List.mem_of_getElem? hi)).resolve_right fun z => by cases z.1
      have ky : d.env.kindOf y = some .local := (D.env.kinds _ (List.mem_of_getElem? hj)).resolve_right fun z => by cases z.1
      refine Assign_Tuple_swapped (ex (a.snd σ _ false ha d s cs D I) fun t s₁ q => ?_) (h1 _) (h2 _ D.env.block kx ky)
      have I1 := I.keeps q.1.le
      have r := q.2
      refine R.tupC r fun vs T eqx hT rs => ?_
      clear r; cases (eqx)
      refine Rs.consC rs fun v0 _ eqx r0 rX => ?_
      clear rs; cases (eqx); revert rX; intro rs
      refine Rs.consC rs fun v1 _ eqx r1 rX => ?_
      clear rs; cases (eqx); revert rX; intro rs
      (refine Rs.nilC rs fun z561 => ?_; clear rs; cases (z561))
      refine wpAny_unpackItems_tuple (items := [v0, v1].toArray) D.room.handled (IsTup.of_hide hT) fun h' eb => ?_
      have k' : Le s₁.heap h' := fun b o e => eb b o (fun q => by rw [q, fresh_size] at e; exact nn0 e) e
      have I2 := I1.keeps k'
      show wpAny _ _ (assignInOrder [bindName d.env y, bindName d.env x] [v1, v0]) _ _ _
      refine wpAny_assignInOrder_more (bindName_ (ex (store_val (s := { s₁ with heap := h' }) D I2 hj (fun z => by cases (z)) (r1.mono (Le.hides_same k'))) fun _ s₂ q2 => ?_))
      refine sAEAA q2 fun sm2 cs2 I3 l2 _ => ?_; try clear q2
      refine wpAny_assignInOrder_more (bindName_ (ex (store_val D I3 hi (fun z => by cases (z)) ((r0.mono (Le.hides_same k')).mono l2)) fun _ s₃ q3 => ?_))
      refine sAEAA q3 fun sm3 cs3 I4 _ _ => ?_; try clear q3
      exact wpAny_assignInOrder_none ⟨q.1.sm.trans (Sm.trans ⟨h', s₁.toks, rfl⟩ (sm2.trans sm3)), cs3, I4, rfl⟩
    · exact nn0 h
end X1
noncomputable def insAt (xs : List V) (k : Nat) (x : V) : List V := xs.take k ++ x :: xs.drop k
theorem raw_insert {prog : Program} {w : World} {A : Around} {E : Value → Shared → Prop} {s : Shared} {l : Addr} {us : List Value} {k : Nat} {i : Int} {t : Tok} {y : Value} {Q : Value → Shared → Prop}
    (hl : s.heap.get? l = some { cls := .type "list", data := .seq us.toArray k }) (h0 : 0 ≤ i) (h1 : i ≤ us.length) (hz : us.length ≤ 2 ^ 20)
    (h : ∀ h', h'.PlainList l (us.take i.toNat ++ y :: us.drop i.toNat).toArray → Heap.SameBut l s.heap h' → Q .none { s with heap := h' }) :
    wpAny (model prog w) A (call (.builtin "list.insert") [.ref l, .int i t, y]) Q E s := by
  have hsz : sizeLine = 2 ^ 24 := rfl
  refine call_meets F.slot_list_insert ⟨_, hl, rfl⟩ F.entry_list_insert (F.args_list_insert_3 _ _ _) (AutoSeq1.list_insert_list_int_val_1 l us.toArray k i t y (by simp [Builtin.List.listFitsIndex]; omega) (by rw [List.size_toArray]; omega)) ⟨hl, h _ ?_ (Heap.SameBut.update ..)⟩
  rw [Heap.PlainList]
  have hm : min i.toNat us.length = i.toNat := by omega
  have e : ((us.toArray.extract 0 i.toNat).push y ++ us.toArray.extract i.toNat us.length) = (us.take i.toNat ++ y :: us.drop i.toNat).toArray := by
    apply Array.ext'
    simp
    rw [List.take_of_length_le (by rw [List.length_drop]; omega)]
  refine ⟨k + 1, ?_⟩
  rw [Heap.get?_update_self _ hl (by rfl)]
  have hn : ((us.take i.toNat ++ y :: us.drop i.toNat).toArray.size == us.toArray.size) = false := by
    rw [beq_eq_false_iff_ne]
    simp
    omega
  show some (Obj.mk _ _ (Data.seq (have k := if i < 0 then (i + ((us.toArray.size : Nat) : Int)).toNat else min i.toNat us.toArray.size; (us.toArray.extract 0 k).push y ++ us.toArray.extract k) (if ((have k := if i < 0 then (i + ((us.toArray.size : Nat) : Int)).toNat else min i.toNat us.toArray.size; (us.toArray.extract 0 k).push y ++ us.toArray.extract k).size == us.toArray.size) = true then k else k + 1)) _) = _
  dsimp only
  rw [if_neg (show ¬ i < 0 by omega), List.size_toArray, hm, e, ← List.size_toArray, if_neg (by rw [hn]; decide)]
structure InsC (u : U) (n : Nat) (f : Addr) where
  den : List V → Int → Option (List V)
  ok : ∀ xs x zs, den xs x = some zs → ∀ (hb : Heap) (A : Around) (s : Shared) (r : Addr) (us : List Value) (t : Tok), Base u hb → Room n A → LeB hb s.heap → OwnL true s.heap r us.toArray → xs.all V.flat = true → Rs s.heap xs us →
    wpAny (model u.prog u.w) A (call (.ref f) [.ref r, .int x t]) (fun v s' => v = .none ∧ Sm s s' ∧ ∃ us', OwnL true s'.heap r us'.toArray ∧ zs.all V.flat = true ∧ Rs s'.heap zs us' ∧ ∀ b o, b ≠ r → s.heap.get? b = some o → s'.heap.get? b = some o) NoE s
section
variable {u : U} {n : Nat} {C : Nm}
theorem Rs.insAt {h : Heap} {xs : List V} {us : List Value} (r : Rs h xs us) {v : V} {y : Value} (k : Nat) (a : R h v y) : Rs h (insAt xs k v) (us.take k ++ y :: us.drop k) := (r.take k).append (.cons a (r.drop k))
noncomputable def insC {fa bis : Addr} {oc : Value} {od : Option Addr} {osl : Array (Option Value)} {fd : FuncData} {na nx nlo nhi nkey bn : Str} {tL : Tok} (tst : XT u n C) (bco : Co u n (.ref bis)) (p1 np cp ap ip anp apos p p2 q0 q1 q2' q3 r0 r1 : Pos) (els : List Stmt)
    (hC : C.slots = [(na, .local), (nx, .local), (nlo, .local), (nhi, .local), (nkey, .local)])
    (hK : u.K.lookup fa = some ⟨oc, od, .func fd, osl⟩) (hcode : codeIn u.K fd.code fd.qualname = true)
    (hbody : fd.body = .stmts [.If tst.e [.Assign [.Name nlo p1] (.Call (.Name bn np) [.Name na q0, .Name nx q1, .Name nlo q2', .Name nhi q3] [] cp) ap] els ip, .Expr (.Call (.Attribute (.Name na anp) "insert" apos) [.Name nlo r0, .Name nx r1] [] p) p2])
    (hnm : NmOK C fd.scope) (hglob : fd.globals = mainGlobals) (hbi : fd.builtins = builtinsNs)
    (hcell : ∀ x ∈ fd.scope.names, x.2 ≠ .cell) (hco : fd.scope.isCoroutine = false) (hgen : fd.scope.isGenerator = false)
    (hbind : ∀ (s : Shared) (v0 v1 : Value), u.K.In s.heap → BindsTo s fd ⟨[v0, v1], []⟩ [(na, v0), (nx, v1), (nlo, .int 0 tL), (nhi, .none), (nkey, .none)])
    (hb : u.G.lookup bn = some (.ref bis)) (hk : Keepable u (.ref bis)) (hbx : bn ∈ C.globs) (hbd : (bn == ("__debug__" : Str)) = false) (hline : (apos.endLine == p.line) = true)
    (htst : ∀ r x, tst.den [.val (.raw (.ref r)), .val (.int x), .val (.int 0), .val .none, .val .none] = some true) : InsC u (n + 1) fa where
  den xs x := match bco.den [.list xs, .int x, .int 0, .none] with
    | some (.int k) => if decide (0 ≤ k) && decide (k ≤ xs.length) && decide (xs.length ≤ 2 ^ 20) then some (insAt xs k.toNat (.int x)) else none
    | _ => none
  ok := by
    intro xs x zs h hb₀ A s r us t B rm le ho hfl hr
    (refine Classical.byContradiction fun hnn => ?_; split at (h) <;> (refine hnn ?_; clear hnn))
    · rename_i k hden
      (refine Classical.byContradiction fun hnn => ?_; split at (h) <;> (refine hnn ?_; clear hnn))
      · rename_i hc
        rw [Bool.and_eq_true, Bool.and_eq_true, decide_eq_true_eq, decide_eq_true_eq, decide_eq_true_eq] at hc
        cases (h)
        refine wpAny_call ?_
        have X : u.K.In s.heap := B.X.keeps le.le
        have slots : ∀ (i : Nat) (q : Str × NameKind), ([(na, .local), (nx, .local), (nlo, .local), (nhi, .local), (nkey, .local)] : List (Str × NameKind))[i]? = some q → C.slots[i]? = some q := fun i q e => by rw [hC]; exact e
        have hloc : allLocal C = true := by unfold allLocal; rw [hC]; rfl
        refine codeAny_call_def rm.dep (X _ _ hK) rfl (B.lim.keeps le.le) (codeRec_of X hcode) hbody (hbind s (.ref r) (.int x t) X) hcell ?_ (fun h₀ hns hk₀ => ?_) hco hgen hnm.kind
        · intro y m
          have : (y.1, NameKind.local) ∈ C.slots := by
            rw [hC]
            simp only [List.mem_cons, List.not_mem_nil, or_false] at m
            rcases m with rfl | rfl | rfl | rfl | rfl <;> simp
          exact hnm.kinds _ this
        · have D : DOk u n C { hb := hb₀, he := s.heap, A := A.deeper (callEnv fd s.heap.objs.size fa), W := [], env := callEnv fd s.heap.objs.size fa } :=
            ⟨⟨hnm.kind, hglob, hbi, fun p m => .inl (hnm.kinds p m), hnm.globs, hnm.three, fun p m _ _ h => absurd (beq_iff_eq.mp (List.all_eq_true.mp hloc p m)) h, hnm.nodup, hnm.noClass⟩, B, le.le, rm.deeper, fun a m => (by exact nn4 m), le.size⟩
          have hz : ((C.slots.map (·.1)).zip [Value.ref r, .int x t, .int 0 tL, .none, .none]) = [(na, .ref r), (nx, .int x t), (nlo, .int 0 tL), (nhi, .none), (nkey, .none)] := by rw [hC]; rfl
          have I : Inv C { hb := hb₀, he := s.heap, A := A.deeper (callEnv fd s.heap.objs.size fa), W := [], env := callEnv fd s.heap.objs.size fa } (sigma C [.raw (.ref r), .int x, .int 0, .none, .none]) h₀ (csOf C [.ref r, .int x t, .int 0 tL, .none, .none]) :=
            Inv.begin hloc hnm.nodup (by rw [hC]; exact Nat.le_refl 5) (by rw [hz]; exact hns) (.cons (.raw _) (.cons (.int _ _) (.cons (.int _ _) (.cons .none (.cons .none .nil))))) (fun b o e => hk₀ b o e) (fresh_size _)
          have eσ : sigma C [.raw (.ref r), .int x, .int 0, .none, .none] = [.val (.raw (.ref r)), .val (.int x), .val (.int 0), .val .none, .val .none] := by unfold sigma; rw [hC]; rfl
          rw [eσ] at I
          refine ex (Q := fun f s' => (match f with | Flow.ret v => v | _ => Value.none) = Value.none ∧ Sm s s' ∧ ∃ us', OwnL true s'.heap r us'.toArray ∧ (insAt xs k.toNat (V.int x)).all V.flat = true ∧ Rs s'.heap (insAt xs k.toNat (V.int x)) us' ∧ ∀ (b : Addr) (o : Obj), b ≠ r → s.heap.get? b = some o → s'.heap.get? b = some o) ?_ (fun _ _ z => z)
          refine genW fun QW hQW => ?_
          refine wpAny_execs_cons (wpAny_If (ex (tst.snd _ _ (htst r x) _ _ _ D I) fun z s₁ q => ?_))
          rw [q.2]
          simp only [if_true]
          have I1 := I.keeps q.1.le
          refine wpAny_execs_cons (wpAny_Assign_Name (wpAny_Call_ofName (ex ((XE.glob (n := n) (C := C) bn (.ref bis) np hb hbx hbd).snd _ _ _ rfl _ s₁ _ D I1) fun g s₂ q2 => ?_)) (by rfl))
          have q22 := q2.2
          (refine R.rawC q22 fun z568 => ?_; clear q22; cases (z568))
          have I2 := I1.keeps q2.1.le
          let L : (i : Nat) → (y : Str) → Pos → C.slots[i]? = some (y, .local) → XA u n C := fun i y pp hi => ⟨XE.loc i pp y .local hi, rfl⟩
          refine callWith_ok (es := [L 0 na q0 (slots 0 _ rfl), L 1 nx q1 (slots 1 _ rfl), L 2 nlo q2' (slots 2 _ rfl), L 3 nhi q3 (slots 3 _ rfl)]) (vs := [.raw (.ref r), .int x, .int 0, .none]) (b := false) rfl hk D I2 fun ws s₃ k3 I3 rs => ?_
          refine Rs.consC rs fun w0 _ eqx a0 rX => ?_
          clear rs; cases (eqx); revert rX; intro rs
          refine Rs.consC rs fun w1 _ eqx a1 rX => ?_
          clear rs; cases (eqx); revert rX; intro rs
          refine Rs.consC rs fun w2 _ eqx a2 rX => ?_
          clear rs; cases (eqx); revert rX; intro rs
          refine Rs.consC rs fun w3 _ eqx a3 rX => ?_
          clear rs; cases (eqx); revert rX; intro rs
          (refine Rs.nilC rs fun z569 => ?_; clear rs; cases (z569))
          (refine R.rawC a0 fun z570 => ?_; clear a0; cases (z570))
          have up0 : ∀ {h : Heap} {b : Addr} {o : Obj}, h.get? b = some o → (hideAll h []).get? b = some o := fun e => hideAll_get _ e (fun m => by exact nn4 m)
          refine sEAAEA ho fun oo eo cc mm dd pl' => ?_; try clear ho
          have e3 : s₃.heap.get? r = some oo := I3.keep r oo eo
          have args : Rs (hideAll s₃.heap []) [.list xs, .int x, .int 0, .none] [.ref r, w1, w2, w3] := .cons (.list (vs := us) ⟨oo, up0 e3, cc, mm, dd⟩ (hr.of_flat hfl)) (.cons (a1.of_flat rfl) (.cons (a2.of_flat rfl) (.cons (a3.of_flat rfl) .nil)))
          refine ex (bco.ok _ _ hden hb₀ _ [] s₃ [.ref r, w1, w2, w3] B rm.deeper (I3.leB D) (fun a m => by exact nn4 m) args) fun v s₄ q4 => ?_
          have q42 := q4.2
          (refine R.intC q42 fun _ z573 => ?_; clear q42; cases (z573))
          have I4 := I3.keeps q4.1.le
          refine ex (store_val D I4 (slots 2 (nlo, .local) rfl) (fun z => by cases (z)) (.int k _)) fun _ s₅ q5 => ?_
          refine sAEAA q5 fun sm5 cs5 I5 _ _ => ?_; try clear q5
          refine wpAny_execs_nil ?_
          refine wpAny_execs_cons (wpAny_Expr ?_ (by unfold interactive; rw [D.env.kind]; rfl) (by rfl))
          have I5' : Inv C { hb := hb₀, he := s.heap, A := A.deeper (callEnv fd s.heap.objs.size fa), W := [], env := callEnv fd s.heap.objs.size fa } [.val (.raw (.ref r)), .val (.int x), .val (.int k), .val .none, .val .none] s₅.heap cs5 := I5
          refine sEA (I5'.slotAt (i := 0) rfl) fun c0 hc0 sr0 => ?_
          refine SR.valC sr0 fun w eqx rw0 => ?_
          clear sr0; cases (eqx)
          (refine R.rawC rw0 fun z575 => ?_; clear rw0; cases (z575))
          have e5 : s₅.heap.get? r = some oo := I5.keep r oo eo
          refine meth_gen (es := [L 2 nlo r0 (slots 2 _ rfl), L 1 nx r1 (slots 1 _ rfl)]) rfl (show (2 : Nat) < 29 by decide) hline (slotName D I5' (slots 0 (na, .local) rfl) hc0 rfl fun pl => ?_)
          refine getMethod_list_of F.slot_list_insert F.type_list_insert ⟨oo, e5, cc, mm, dd⟩ ⟨oo, e5, by rw [pl' rfl]⟩ ?_
          refine callWith_ok (vs := [.int k, .int x]) (b := false) rfl Keepable.bi D I5' fun ws s₆ k6 I6 rs => ?_
          refine Rs.consC rs fun w0 _ eqx a0 rX => ?_
          clear rs; cases (eqx); revert rX; intro rs
          refine Rs.consC rs fun w1 _ eqx a1 rX => ?_
          clear rs; cases (eqx); revert rX; intro rs
          (refine Rs.nilC rs fun z576 => ?_; clear rs; cases (z576))
          (refine R.intC a0 fun _ z577 => ?_; clear a0; cases (z577))
          have e6 : s₆.heap.get? r = some { cls := .type "list", data := .seq us.toArray mm } := by rw [I6.keep r oo eo, pl' rfl]
          have len := hr.length
          refine raw_insert e6 hc.1.1 (by rw [← len]; exact hc.1.2) (by rw [← len]; exact hc.2) fun h' pll sm => ?_
          refine wpAny_execs_nil (hQW (.next) _ ⟨rfl, ?_, us.take k.toNat ++ w1 :: us.drop k.toNat, OwnL.of_plain pll, ?_, (hr.of_flat hfl).insAt _ (a1.of_flat rfl), fun b o nb e => sm.extBut b o nb (I6.keep b o e)⟩)
          · exact (Sm.trans ⟨h₀, _, rfl⟩ (q.1.sm.trans (q2.1.sm.trans (k3.sm.trans (q4.1.sm.trans (sm5.trans (k6.sm.trans ⟨h', s₆.toks, rfl⟩)))))) : Sm s { s₆ with heap := h' })
          · rw [List.all_eq_true]
            intro y m
            have hall := List.all_eq_true.mp hfl
            rcases List.mem_append.mp m with m | m
            · exact hall y (List.mem_of_mem_take m)
            · rcases List.mem_cons.mp m with rfl | m
              · rfl
              · exact hall y (List.mem_of_mem_drop m)
      · exact nn0 h
    · exact nn0 h
end
section
variable {u : U} {n : Nat} {C : Nm}
theorem Inv.ownSetP {d : Dy} {σ : List SV} {h h' : Heap} {cs : List CS} {i : Nat} {a : Addr} {pf : Bool} {xs : List V} {us : List Value} (D : DOk u n C d) (I : Inv C d σ h cs) (hc : cs[i]? = some (.own a)) (k : ∀ b o, b ≠ a → h.get? b = some o → h'.get? b = some o)
    (p : OwnL pf h' a us.toArray) (r : Rs (hideAll h (hid C d cs false)) xs us) : Inv C d (σ.set i (.own pf xs)) h' cs := by
  have ha : a ∈ adrs cs := List.mem_flatMap.mpr ⟨_, List.mem_of_getElem? hc, List.mem_singleton.mpr rfl⟩
  have hw : a ∈ wr C d cs := List.mem_cons_of_mem _ (List.mem_append_right _ ha)
  have up : Le (hideAll h (d.W ++ wr C d cs)) (hideAll h' (d.W ++ wr C d cs)) := Le.hides fun b o e nn => ⟨k b o (fun q => nn (q ▸ List.mem_append_right _ hw)) e, nn⟩
  have hf : a ∉ frm C d := fun m => by
    rcases List.mem_cons.mp m with m | m
    · exact I.LC (m ▸ List.mem_append_right _ ha)
    · exact I.CA _ m ha
  refine ⟨?_, by rw [List.length_set]; exact I.lenS, I.lenC, ?_, fun b o e => k b o (fun q => by rw [q, I.fresh a hw] at e; exact nn0 e) (I.keep b o e), I.fresh, I.LC, I.CA, I.own, I.slf⟩
  · refine sEA I.ns fun m hn hs => ?_
    refine ⟨m, (let ⟨o, es, ep, g1, g2⟩ := hn; ⟨o, es, ep, k _ _ (fun q => hf (q ▸ List.mem_cons_self)) g1, g2⟩), fun j q c e1 e2 => ?_⟩
    have z := hs j q c e1 e2
    unfold Stored at z ⊢
    split
    · rename_i hp; rw [hp] at z; exact z
    · rename_i hp
      have z : ∃ ca, d.env.cells.lookup q.1 = some ca ∧ h.IsCell ca c.value := by
        revert z; split
        · rename_i q; exact fun _ => absurd q hp
        · exact id
      refine sEA z fun ca h1 h2 => ?_; try clear z
      refine ⟨ca, h1, (let ⟨o, g1, g2⟩ := h2; ⟨o, k _ _ ?_ g1, g2⟩)⟩
      intro q
      refine sEA h2 fun o ho hd => ?_; try clear h2
      have r0 := I.sr i
      obtain ⟨sv, hsv⟩ := get_of_len (I.lenS.trans I.lenC.symm) (show i < cs.length from by
        rcases Nat.lt_or_ge i cs.length with z | z
        · exact z
        · rw [List.getElem?_eq_none z] at hc; exact nn0 hc)
      have r1 := r0 sv _ hsv hc
      refine SR.ownD r1 fun _ _ _ eqx p _ => ?_
      clear r1; cases (eqx)
      refine sEAAEA p fun o' e' _ n' d' _ => ?_; try clear p
      rw [q, e'] at ho; cases (ho); rw [d'] at hd; cases (hd)
  · intro j sv c e1 e2
    by_cases q : i = j
    · subst q
      rw [hc] at e2; (refine inj1 e2 ?_; clear e2)
      rcases set_get e1 with ⟨_, rfl⟩ | ⟨ne, _⟩
      · exact .own p (r.mono up)
      · exact absurd rfl ne
    · rcases set_get e1 with ⟨eq, _⟩ | ⟨_, e1⟩
      · exact absurd eq q
      · have r1 := I.sr j sv c e1 e2
        have cm : c ∈ cs := List.mem_of_getElem? e2
        have off : ∀ x ∈ c.adr, x ≠ a := fun x m e => I.own j i c _ (Ne.symm q) e2 hc x m (List.mem_singleton.mpr e)
        cases r1 with
        | unset => exact .unset
        | val r => exact .val (r.mono up)
        | own p r =>
          refine sEA p fun o e z => ?_; try clear p
          exact .own ⟨o, k _ _ (off _ (List.mem_singleton.mpr rfl)) e, z⟩ (r.mono up)
        | self g1 g2 r => exact .self (k _ _ (off _ List.mem_cons_self) g1) (k _ _ (off _ (List.mem_cons_of_mem _ (List.mem_singleton.mpr rfl))) g2) (r.mono up)
theorem Inv.asRaw {d : Dy} {σ : List SV} {h : Heap} {cs : List CS} {i : Nat} {ad : Addr} {pf : Bool} {xs : List V} (I : Inv C d σ h cs) (hi : σ[i]? = some (.own pf xs)) (hc : cs[i]? = some (.own ad)) :
    Inv C (d.plus [ad]) (σ.set i (.val (.raw (.ref ad)))) h (cs.set i (.val (.ref ad))) ∧ XOK C d [ad] h (cs.set i (.val (.ref ad))) := by
  have ha : ad ∈ adrs cs := List.mem_flatMap.mpr ⟨_, List.mem_of_getElem? hc, List.mem_singleton.mpr rfl⟩
  have hw : ad ∈ wr C d cs := List.mem_cons_of_mem _ (List.mem_append_right _ ha)
  have sub : ∀ b ∈ wr C d (cs.set i (.val (.ref ad))), b ∈ wr C d cs := fun b m => (wr_set m).elim id fun z => by exact nn4 z
  have vis : Le (hideAll h (d.W ++ wr C d cs)) (hideAll h (([ad] ++ d.W) ++ wr C d (cs.set i (.val (.ref ad))))) := Le.hides_sub fun b m => by
    rcases List.mem_append.mp m with m | m
    · rcases List.mem_append.mp m with m | m
      · rw [List.mem_singleton.mp m]; exact List.mem_append_right _ hw
      · exact List.mem_append_left _ m
    · exact List.mem_append_right _ (sub b m)
  have off : ad ∉ adrs (cs.set i (.val (.ref ad))) := fun m => by
    refine sEA (List.mem_flatMap.mp m) fun c mc ma => ?_
    obtain ⟨j, hj, e⟩ := List.getElem_of_mem mc
    have e1 : (cs.set i (.val (.ref ad)))[j]? = some c := by rw [List.getElem?_eq_getElem hj, e]
    rcases set_get e1 with ⟨_, rfl⟩ | ⟨ne, e2⟩
    · exact nn4 ma
    · exact I.own i j _ c ne hc e2 ad (List.mem_singleton.mpr rfl) ma
  have live : ∃ o, h.get? ad = some o ∧ ∀ v, o.data ≠ .cell v := by
    have r := I.sr i _ _ hi hc
    refine SR.ownC r fun _ _ eqx p _ => ?_
    clear r; cases (eqx)
    refine sEAAEA p fun o e _ m dd _ => ?_; try clear p
    exact ⟨o, e, fun v z => by rw [dd] at z; cases (z)⟩
  refine ⟨⟨?_, by rw [List.length_set]; exact I.lenS, by rw [List.length_set]; exact I.lenC, fun j sv c e1 e2 => ?_, I.keep, fun b m => I.fresh b (sub b m), fun m => ?_, fun b m q => ?_, fun j l c c' ne e1 e2 b m1 m2 => ?_, fun j y dy e => ?_⟩, ⟨fun b m => ?_, fun b m => ?_, fun b m => ?_⟩⟩
  · refine sEA I.ns fun m hn hs => ?_
    refine ⟨m, hn, fun j q c e1 e2 => ?_⟩
    rcases set_get e2 with ⟨rfl, rfl⟩ | ⟨_, e2⟩
    · have z := hs i q _ e1 hc
      exact z
    · exact hs j q c e1 e2
  · rcases set_get e2 with ⟨rfl, rfl⟩ | ⟨ne, e2⟩
    · rcases set_get e1 with ⟨_, rfl⟩ | ⟨ne, _⟩
      · exact .val (.raw _)
      · exact absurd rfl ne
    · rcases set_get e1 with ⟨eq, _⟩ | ⟨_, e1⟩
      · exact absurd eq ne
      · exact (I.sr j sv c e1 e2).mono (Le.refl _) vis
  · rcases List.mem_append.mp m with m | m
    · exact I.LC (List.mem_append_left _ m)
    · rcases adrs_set m with m | m
      · exact I.LC (List.mem_append_right _ m)
      · exact nn4 m
  · rcases adrs_set q with q | q
    · exact I.CA b m q
    · exact nn4 q
  · rcases set_get e1 with ⟨_, rfl⟩ | ⟨_, e1⟩
    · exact nn4 m1
    · rcases set_get e2 with ⟨_, rfl⟩ | ⟨_, e2⟩
      · exact nn4 m2
      · exact I.own j l c c' ne e1 e2 b m1 m2
  · rcases set_get e with ⟨_, e⟩ | ⟨_, e⟩
    · cases (e)
    · exact I.slf j y dy e
  · rw [List.mem_singleton.mp m]; exact live
  · rw [List.mem_singleton.mp m]
    intro q
    rcases List.mem_cons.mp q with q | q
    · exact I.LC (q ▸ List.mem_append_right _ ha)
    · rcases List.mem_append.mp q with q | q
      · exact I.CA _ q ha
      · exact off q
  · rw [List.mem_singleton.mp m]; exact I.fresh ad hw
end
namespace X1
variable {u : U} {n : Nat} {C : Nm}
noncomputable def insort (i j : Nat) (x y : Str) (hx : C.slots[i]? = some (x, .local)) (hy : C.slots[j]? = some (y, .local)) (fn : Str) (f : Addr) (co : InsC u n f) (np yp fp p p2 : Pos) (e0 : u.G.lookup fn = some (.ref f)) (hkp : Keepable u (.ref f)) (hfx : fn ∈ C.globs) (hd0 : (fn == ("__debug__" : Str)) = false) : X1 u n C where
  st := .Expr (.Call (.Name fn fp) [.Name x np, .Name y yp] [] p) p2
  den σ := match σ[i]? with
    | some (.own true xs) => match σ[j]? with
      | some (.val (.int k)) => if xs.all V.flat then match co.den xs k with
        | some zs => some (.next, σ.set i (.own true zs))
        | none => none else none
      | _ => none
    | _ => none
  snd := by
    intro σ fl σ' h d s cs D I
    (refine Classical.byContradiction fun hnn => ?_; split at (h) <;> (refine hnn ?_; clear hnn))
    · rename_i xs hi
      (refine Classical.byContradiction fun hnn => ?_; split at (h) <;> (refine hnn ?_; clear hnn))
      · rename_i k hj
        (refine Classical.byContradiction fun hnn => ?_; split at (h) <;> (refine hnn ?_; clear hnn))
        · rename_i hfl
          (refine Classical.byContradiction fun hnn => ?_; split at (h) <;> (refine hnn ?_; clear hnn))
          · rename_i zs hz
            cases (h)
            refine sEEAA (I.ownAt hi) fun ad us hca ho hr => ?_
            have hne : i ≠ j := fun q => by rw [q, hj] at hi; cases (hi)
            refine sA (I.asRaw hi hca) fun I2 X2 => ?_
            refine sA (loose D I2 X2) fun D3 I3 => ?_
            refine wpAny_Expr ?_ (by unfold interactive; rw [D.env.kind]; rfl) (by rfl)
            refine wpAny_Call_ofName (ex ((XE.glob (n := n) (C := C) fn (.ref f) fp e0 hfx hd0).snd _ _ _ rfl (d.now C [ad] s.heap (cs.set i (.val (.ref ad)))) s _ D3 I3) fun g s₁ q => ?_)
            have q2 := q.2
            (refine R.rawC q2 fun z595 => ?_; clear q2; cases (z595))
            have hi3 : (σ.set i (.val (.raw (.ref ad))))[i]? = some (.val (.raw (.ref ad))) := by
              have : i < σ.length := by
                rcases Nat.lt_or_ge i σ.length with z | z
                · exact z
                · rw [List.getElem?_eq_none z] at hi; exact nn0 hi
              rw [List.getElem?_set_self this]
            have hj3 : (σ.set i (.val (.raw (.ref ad))))[j]? = some (.val (.int k)) := by rw [List.getElem?_set_ne hne]; exact hj
            have hden : denL [(⟨XE.loc i np x .local hx, rfl⟩ : XA u n C), ⟨XE.loc j yp y .local hy, rfl⟩] (σ.set i (.val (.raw (.ref ad)))) = some ([.raw (.ref ad), .int k], false) := by
              simp only [denL, XE.loc, hi3, hj3]; rfl
            refine callWith_ok (es := [⟨XE.loc i np x .local hx, rfl⟩, ⟨XE.loc j yp y .local hy, rfl⟩]) hden hkp (d := d.now C [ad] s.heap (cs.set i (.val (.ref ad)))) D3 (I3.keeps q.1.le) fun ws s₃ k3 _ rs => ?_
            refine Rs.consC rs fun w0 _ eqx a0 rX => ?_
            clear rs; cases (eqx); revert rX; intro rs
            refine Rs.consC rs fun w1 _ eqx a1 rX => ?_
            clear rs; cases (eqx); revert rX; intro rs
            (refine Rs.nilC rs fun z597 => ?_; clear rs; cases (z597))
            (refine R.rawC a0 fun z598 => ?_; clear a0; cases (z598))
            (refine R.intC a1 fun _ z599 => ?_; clear a1; cases (z599))
            have kk := q.1.trans k3
            have I4 := I.keeps kk.le
            refine ex (co.ok xs k zs hz d.hb d.A s₃ ad us _ D.base D.room (I4.leB D) (let ⟨o, e, z⟩ := ho; ⟨o, kk.le _ _ e, z⟩) hfl (hr.of_flat hfl)) fun v s₄ q4 => ?_
            obtain ⟨rfl, sm, us', ho', hfz, hr', kp⟩ := q4
            exact ⟨kk.sm.trans sm, cs, I4.ownSetP D hca kp ho' (hr'.of_flat hfz), rfl⟩
          · exact nn0 h
        · exact nn0 h
      · exact nn0 h
    · exact nn0 h
end X1
section
open PySem.F
theorem plainAttrs_rp : PlainAttrs "re.Pattern" :=
  ⟨⟨"object.__getattribute__", by rw [typeLookup_type, builtinLookup_eq_fast]; kernel_rfl, by decide +kernel⟩, by rw [typeLookup_type, builtinLookup_eq_fast]; kernel_rfl⟩
theorem plainAttrs_rm : PlainAttrs "re.Match" :=
  ⟨⟨"object.__getattribute__", by rw [typeLookup_type, builtinLookup_eq_fast]; kernel_rfl, by decide +kernel⟩, by rw [typeLookup_type, builtinLookup_eq_fast]; kernel_rfl⟩
theorem slot_rp_search : Slot "re.Pattern" "search" "re.Pattern.search" :=
  .of (owner := "re.Pattern") (n := "search") (by rw [typeLookup_type, builtinLookup_eq_fast]; kernel_rfl) (by decide +kernel) (by decide +kernel) (by decide +kernel)
    (by first | exact .inl (by decide +kernel) | exact .inr (by decide +kernel)) (by rw [isSubtype_type]; kernel_rfl)
theorem type_rp_search : typeOf (.builtin "re.Pattern.search") = pure (.type "method_descriptor") := by show builtinType _ = _; rw [builtinType_eq_fast]; kernel_rfl
theorem entry_rp_search : entryFor table "re.Pattern.search" = some Builtin.«re.Pattern.search» := entryFor_of_tree (by kernel_rfl)
theorem owner_rp : Manifest.owners.lookup (String.ofList ['n','r','e','t','t','a','P','.','e','r'].reverse) = some Manifest.sig_re_Pattern := by kernel_rfl
theorem args_rp_search (a b : Value) : argsOk "re.Pattern.search" ⟨[a, b], []⟩ := by
  unfold argsOk; rw [signature?_of (id := "re.Pattern.search") (n := ['h','c','r','a','e','s']) (o := ['n','r','e','t','t','a','P','.','e','r']) (by kernel_rfl) owner_rp]; kernel_rfl
theorem slot_rm_group : Slot "re.Match" "group" "re.Match.group" :=
  .of (owner := "re.Match") (n := "group") (by rw [typeLookup_type, builtinLookup_eq_fast]; kernel_rfl) (by decide +kernel) (by decide +kernel) (by decide +kernel)
    (by first | exact .inl (by decide +kernel) | exact .inr (by decide +kernel)) (by rw [isSubtype_type]; kernel_rfl)
theorem type_rm_group : typeOf (.builtin "re.Match.group") = pure (.type "method_descriptor") := by show builtinType _ = _; rw [builtinType_eq_fast]; kernel_rfl
theorem entry_rm_group : entryFor table "re.Match.group" = some Builtin.«re.Match.group» := entryFor_of_tree (by kernel_rfl)
theorem owner_rm : Manifest.owners.lookup (String.ofList ['h','c','t','a','M','.','e','r'].reverse) = some Manifest.sig_re_Match := by kernel_rfl
theorem args_rm_group (a b : Value) : argsOk "re.Match.group" ⟨[a, b], []⟩ := by
  unfold argsOk; rw [signature?_of (id := "re.Match.group") (n := ['p','u','o','r','g']) (o := ['h','c','t','a','M','.','e','r']) (by kernel_rfl) owner_rm]; kernel_rfl
end
open PySem.Builtin.Re
noncomputable def sreDrive : Nat → Sre.M → Option Sre.M
  | 0, _ => none
  | k + 1, m => if (m.runFor reTurnSteps).outcome.isSome then some (m.runFor reTurnSteps) else sreDrive k (m.runFor reTurnSteps)
theorem drive_ok {M : Model} {A : Around} {E : Value → Shared → Prop} {s : Shared} : ∀ {k : Nat} {m m' : Sre.M}, sreDrive k m = some m' → ∀ {n : Nat}, k ≤ n → ∀ {Q : Sre.M → Shared → Prop}, Q m' s → wpAny M A (reDrive n m) Q E s
  | 0, _, _, h, _, _, _, _ => by exact nn0 h
  | k + 1, m, m', h, n, hn, Q, q => by
    cases n with
    | zero => omega
    | succ n =>
      unfold sreDrive at h
      show wpAny M A (if (m.runFor reTurnSteps).outcome.isSome = true then pure (m.runFor reTurnSteps) else (rule "sre.turn" >>= fun _ => reDrive n (m.runFor reTurnSteps))) Q E s
      (refine Classical.byContradiction fun hnn => ?_; split at (h) <;> (refine hnn ?_; clear hnn))
      · rename_i hs
        cases (h)
        rw [if_pos hs]
        exact wpAny_pure q
      · rename_i hs
        rw [if_neg hs]
        exact wpAny_bind (wpAny_rule (drive_ok h (by omega) q))
noncomputable def spansOf (groups : Nat) (m : Sre.M) : List Int := (List.range groups).flatMap fun g =>
    match if ((2 * g + 1 : Nat) : Int) ≤ m.lastmark then (m.marks.getD (2 * g) none, m.marks.getD (2 * g + 1) none) else (none, none) with
    | (some b, some e) => [(b : Int), (e : Int)]
    | _ => [-1, -1]
noncomputable def wrongB (groups : Nat) (m : Sre.M) : Bool := (List.range groups).any (fun g => match m.marks.getD (2 * g) none, m.marks.getD (2 * g + 1) none with | some b, some e => ((2 * g + 1 : Nat) : Int) ≤ m.lastmark && e < b | _, _ => false)
noncomputable def searchV (code : Array Nat) (groups : Nat) (x : Str) : Option V :=
  if decide (x.length ≤ 100) && decide (groups ≤ 50) then match sreDrive 100 (Sre.forSearch code x.cps groups 0 x.cps.size false) with
    | some m => match m.outcome with
      | some .matched => if wrongB groups m then none else some (.mtch x ((m.start : Int) :: (m.handed : Int) :: spansOf groups m))
      | some .failed => some .none
      | _ => none
    | none => none
  else none
theorem toEnd_ok {M : Model} {A : Around} {E : Value → Shared → Prop} {s : Shared} {m m' : Sre.M} (h : sreDrive 100 m = some m') {Q : Option Sre.M → Shared → Prop}
    (h1 : m'.outcome = some .matched → Q (some m') s) (h2 : m'.outcome = some .failed → Q none s) (h3 : m'.outcome = some .matched ∨ m'.outcome = some .failed) : wpAny M A (reRunToEnd m) Q E s := by
  unfold reRunToEnd
  refine wpAny_bind (drive_ok h (by decide) ?_)
  refine wpAny_bind (wpAny_mono (wpAny_forIn_list _ (fun _ _ s' => s' = s) (fun _ s' => s' = s) (fun i rest b s' q => ?_) (fun _ _ q => q) _ _ rfl) (fun _ s' q => ?_) fun _ _ e => e)
  · subst q
    split
    · exact wpAny_bind (wpAny_rule (wpAny_pure rfl))
    · exact wpAny_pure rfl
  · subst q
    rcases h3 with e | e
    · rw [e]; exact wpAny_pure (h1 e)
    · rw [e]; exact wpAny_pure (h2 e)
theorem spans_eq (groups : Nat) (m : Sre.M) : ((List.range groups).flatMap fun g =>
    match if ((2 * g + 1 : Nat) : Int) ≤ m.lastmark then (m.marks.getD (2 * g) none, m.marks.getD (2 * g + 1) none) else (none, none) with
    | (some b, some e) => [rawInt b, rawInt e]
    | _ => [rawInt (-1), rawInt (-1)]) = (spansOf groups m).map rawInt := by
  unfold spansOf
  rw [List.map_flatMap]
  congr 1
  funext g
  generalize (if ((2 * g + 1 : Nat) : Int) ≤ m.lastmark then (m.marks.getD (2 * g) none, m.marks.getD (2 * g + 1) none) else (none, none)) = p
  obtain ⟨a, b⟩ := p
  cases (a) <;> cases (b) <;> rfl
theorem spans_len (groups : Nat) (m : Sre.M) : (spansOf groups m).length ≤ 2 * groups := by
  unfold spansOf
  have : ∀ l : List Nat, (l.flatMap fun g =>
    match if ((2 * g + 1 : Nat) : Int) ≤ m.lastmark then (m.marks.getD (2 * g) none, m.marks.getD (2 * g + 1) none) else (none, none) with
    | (some b, some e) => [(b : Int), (e : Int)]
    | _ => [-1, -1]).length ≤ 2 * l.length := by
    intro l
    induction l with
    | nil => exact Nat.le_refl _
    | cons g l ih =>
      rw [List.flatMap_cons, List.length_append, List.length_cons]
      have : (match if ((2 * g + 1 : Nat) : Int) ≤ m.lastmark then (m.marks.getD (2 * g) none, m.marks.getD (2 * g + 1) none) else (none, none) with
        | (some b, some e) => [(b : Int), (e : Int)]
        | _ => [-1, -1]).length = 2 := by split <;> rfl
      omega
  simpa using this (List.range groups)
theorem call_search {prog : Program} {w : World} {A : Around} {E : Value → Shared → Prop} {s : Shared} {pa ca : Addr} {v0 v1 v3 v4 : Value} {gr : Int} {gt ft : Tok} {items : Array Value} {n : Nat} {x : Str} {t : Tok} {v : V} {Q : Value → Shared → Prop} {H : List Addr} {od : Option Addr} {sl sl' : Array (Option Value)} {oc' : Value} {od' : Option Addr}
    (hp : s.heap.get? pa = some ⟨.type "re.Pattern", od, .fields #[v0, v1, .int gr gt, v3, v4, .ref ca, .int 0 ft], sl⟩) (hc : s.heap.get? ca = some ⟨oc', od', .seq items n, sl'⟩)
    (hv : searchV ((items.map reRawOf).map (·.toNat)) gr.toNat x = some v) (hal : ∀ a ∈ H, a < s.heap.objs.size)
    (hQ : ∀ y s', Kp s s' → R (hideAll s'.heap H) v y → Q y s') :
    wpAny (model prog w) A (call (.builtin "re.Pattern.search") [.ref pa, .str x t]) Q E s := by
  unfold searchV at hv
  (refine Classical.byContradiction fun hnn => ?_; split at (hv) <;> (refine hnn ?_; clear hnn))
  · rename_i hlen
    rw [Bool.and_eq_true, decide_eq_true_eq, decide_eq_true_eq] at hlen
    (refine Classical.byContradiction fun hnn => ?_; split at (hv) <;> (refine hnn ?_; clear hnn))
    · rename_i m hd
      refine wpAny_call_entry slot_rp_search ⟨_, hp, rfl⟩ entry_rp_search ?_ (args_rp_search _ _)
      show wpAny _ _ (reTarget "re.Pattern.search" "search" ⟨[.ref pa, .str x t], []⟩ >>= fun t => reAnswer t (Sre.forSearch t.code t.text t.groups t.pos t.lim false)) _ _ s
      refine wpAny_bind ?_
      show wpAny _ _ (reNamed "re.Pattern.search" "search" ["string", "pos", "endpos"] 1 [.str x t] [] >>= _) _ _ s
      rw [show reNamed "re.Pattern.search" "search" ["string", "pos", "endpos"] 1 [Value.str x t] [] = pure [some (.str x t), none, none] from rfl]
      refine wpAny_bind (wpAny_pure ?_)
      refine wpAny_bind (wpAny_pure ?_)
      refine wpAny_bind (wpAny_pure ?_)
      refine wpAny_bind (wpAny_fieldsOf hp rfl ?_)
      rw [show reTextOf (.str x t) = pure (x.cps, 0) from rfl]
      refine wpAny_bind (wpAny_pure ?_)
      show wpAny _ _ (reNoCollectionInside (.str x t) 0 >>= _) _ _ s
      rw [show reNoCollectionInside (.str x t) 0 = pure () from rfl]
      refine wpAny_bind (wpAny_pure ?_)
      show wpAny _ _ (reRawItems (.ref ca) >>= _) _ _ s
      refine wpAny_bind (wpAny_bind (wpAny_seqItems hc rfl (wpAny_pure ?_)))
      refine wpAny_pure ?_
      have hlim : min ((2 : Int) ^ 63 - 1).toNat x.cps.size = x.cps.size := by
        have : x.cps.size ≤ 100 := hlen.1
        have e : ((2 : Int) ^ 63 - 1).toNat = 9223372036854775807 := by decide
        rw [e]; omega
      have hpos : min (0 : Int).toNat x.cps.size = 0 := Nat.zero_min _
      have hcode : ((some items).getD #[]).map reRawOf = items.map reRawOf := rfl
      have hgr : reRawNat (#[v0, v1, Value.int gr gt, v3, v4, Value.ref ca, Value.int 0 ft].getD 2 Value.none) = gr.toNat := rfl
      simp only [reAnswer]
      rw [hlim, hpos, hgr]
      show wpAny _ _ (reRunToEnd _ >>= _) _ _ s
      refine wpAny_bind (toEnd_ok hd (fun e => ?_) (fun e => ?_) ?_)
      · rw [e] at hv
        dsimp only at hv
        (refine Classical.byContradiction fun hnn => ?_; split at (hv) <;> (refine hnn ?_; clear hnn))
        · exact nn0 hv
        · rename_i hw
          cases (hv)
          refine wpAny_bind ?_
          show wpAny _ _ (reNewMatch (.ref pa) (.str x t) gr.toNat 0 x.cps.size m) _ _ s
          unfold reNewMatch
          dsimp only
          split
          · rename_i q
            exact absurd q hw
          · have hl := spans_len gr.toNat m
            have hs := spans_eq gr.toNat m
            refine wpAny_bind (wpAny_newObj_type ?_ ?_)
            · refine wpAny_newObj_type ?_ ?_
              · dsimp only
                refine wpAny_pure ⟨_, rfl, hQ _ _ (Kp.heap _ ((Le.push _ _).trans (Le.push _ _))) (.mtch (tk := t) (p := .ref pa) (x1 := rawInt (0 : Nat)) (x2 := rawInt x.cps.size) (x3 := rawInt m.lastindex) (b := s.heap.objs.size) (n := 0) ?_ ?_)⟩
                · exact fresh_seen rfl fun a ha => by rw [Heap.size_push]; exact Nat.lt_succ_of_lt (hal a ha)
                · exact (hideAll_get H (Heap.get?_push_of_some _ (Heap.get?_push_size _ rfl)) fun q => Nat.lt_irrefl _ (hal _ q)).trans (congrArg (fun l => some (Obj.mk (.type "tuple") none (.seq (rawInt m.start :: rawInt m.handed :: l).toArray 0) #[])) hs)
              · show 6 ≤ sizeLine + 2
                decide
            · show (rawInt m.start :: rawInt m.handed :: _).toArray.size ≤ sizeLine
              rw [List.size_toArray, List.length_cons, List.length_cons]
              have : sizeLine = 2 ^ 24 := rfl
              have e2 := congrArg List.length hs
              rw [List.length_map] at e2
              refine Nat.le_trans (Nat.add_le_add_right (Nat.add_le_add_right (Nat.le_of_eq e2) 1) 1) ?_
              omega
      · rw [e] at hv
        cases (hv)
        exact wpAny_pure ⟨_, rfl, hQ _ _ (Kp.refl _) .none⟩
      · cases e : m.outcome with
        | none => rw [e] at hv; exact nn0 hv
        | some o =>
          rw [e] at hv
          cases o with
          | matched => exact .inl rfl
          | failed => exact .inr rfl
          | stuck z => exact nn0 hv
    · exact nn0 hv
  · exact nn0 hv
open PySem.Builtin.Re
theorem noBool_rm : typeLookup (.type "re.Match") "__bool__" = pure none := by rw [typeLookup_type, builtinLookup_eq_fast]; kernel_rfl
theorem noLen_rm : typeLookup (.type "re.Match") "__len__" = pure none := by rw [typeLookup_type, builtinLookup_eq_fast]; kernel_rfl
theorem truthy_rm {M : Model} {A : Around} {E : Value → Shared → Prop} {s : Shared} {a : Addr} {Q : Bool → Shared → Prop} (hT : s.TypeIs (.ref a) "re.Match") (h : Q true s) : wpAny M A (truthy (.ref a)) Q E s := by
  unfold truthy
  first
    | refine wpAny_bind (wpAny_callSpecial?_none (name := Str.ofString "__bool__") hT noBool_rm ?_)
    | refine wpAny_bind (wpAny_pure (wpAny_bind (wpAny_callSpecial?_none (name := Str.ofString "__bool__") hT noBool_rm ?_)))
  first
    | refine wpAny_bind (wpAny_specialOf (name := Str.ofString "__len__") hT noLen_rm ?_)
    | refine wpAny_bind (wpAny_pure (wpAny_bind (wpAny_specialOf (name := Str.ofString "__len__") hT noLen_rm ?_)))
  exact wpAny_pure h
noncomputable def groupV (x : Str) (sp : List Int) (k : Int) : Option V :=
  if decide (0 ≤ k) && decide (2 * k < sp.length) && decide (x.length ≤ 100) then
    let b := sp.getD (2 * k.toNat) (-1)
    let e := sp.getD (2 * k.toNat + 1) (-1)
    if b < 0 || e < 0 then some .none else some (.str ⟨x.cps.extract b.toNat e.toNat⟩)
  else none
theorem call_group {prog : Program} {w : World} {A : Around} {E : Value → Shared → Prop} {s : Shared} {a b : Addr} {x : Str} {sp : List Int} {tk t : Tok} {p x1 x2 x3 : Value} {n : Nat} {k : Int} {v : V} {Q : Value → Shared → Prop}
    (e1 : s.heap.get? a = some { cls := .type "re.Match", data := .fields #[.str x tk, p, x1, x2, x3, .ref b] }) (e2 : s.heap.get? b = some { cls := .type "tuple", data := .seq (sp.map rawInt).toArray n })
    (hv : groupV x sp k = some v) (hQ : ∀ y s', Kp s s' → (∀ h, R h v y) → Q y s') :
    wpAny (model prog w) A (call (.builtin "re.Match.group") [.ref a, .int k t]) Q E s := by
  unfold groupV at hv
  (refine Classical.byContradiction fun hnn => ?_; split at (hv) <;> (refine hnn ?_; clear hnn))
  · rename_i hc
    rw [Bool.and_eq_true, Bool.and_eq_true, decide_eq_true_eq, decide_eq_true_eq, decide_eq_true_eq] at hc
    refine wpAny_call_entry slot_rm_group ⟨_, e1, rfl⟩ entry_rm_group ?_ (args_rm_group _ _)
    show wpAny _ _ (noKeywords "Match.group" ⟨[.ref a, .int k t], []⟩ >>= _) _ _ s
    rw [show noKeywords "Match.group" ⟨[.ref a, .int k t], []⟩ = pure () from rfl]
    refine wpAny_bind (wpAny_pure ?_)
    show wpAny _ _ (reFound (.ref a) >>= fun x => reGroupNumber x (.int k t) >>= fun g => reGroupText x g .none >>= fun v => ret v) _ _ s
    unfold reFound
    refine wpAny_bind (wpAny_bind (wpAny_fieldsOf e1 rfl ?_))
    show wpAny _ _ (reRawItems (.ref b) >>= _) _ _ s
    refine wpAny_bind (wpAny_bind (wpAny_seqItems e2 rfl (wpAny_pure ?_)))
    refine wpAny_pure ?_
    have hsp : ((some (sp.map rawInt).toArray).getD #[]).map reRawOf = sp.toArray := by
      apply Array.ext'
      have : (reRawOf ∘ rawInt) = id := by funext i; rfl
      simp [this]
    rw [hsp]
    have hk1 : ¬ k < 0 := by omega
    have hk2 : ¬ 2 * k ≥ (sp.toArray.size : Int) := by rw [List.size_toArray]; omega
    have hnum : ∀ f, reGroupNumber ⟨f, sp.toArray⟩ (.int k t) = pure k.toNat := fun f => by
      show (if (decide (k < 0) || decide (2 * k ≥ (sp.toArray.size : Int))) = true then _ else pure k.toNat) = _
      rw [if_neg (by simp only [Bool.or_eq_true, decide_eq_true_eq]; exact fun z => z.elim hk1 hk2)]
    rw [hnum]
    refine wpAny_bind (wpAny_pure (wpAny_bind ?_))
    unfold reGroupText
    dsimp only
    have g1 : ∀ i : Nat, sp.toArray.getD i (-1) = sp.getD i (-1) := fun i => by simp [Array.getD_eq_getD_getElem?, List.getD_eq_getElem?_getD]
    rw [g1, g1]
    dsimp only at hv
    by_cases hn : sp.getD (2 * k.toNat) (-1) < 0 ∨ sp.getD (2 * k.toNat + 1) (-1) < 0
    · have hb : (decide (sp.getD (2 * k.toNat) (-1) < 0) || decide (sp.getD (2 * k.toNat + 1) (-1) < 0)) = true := by simpa using hn
      rw [if_pos (by simpa using hn)] at hv
      cases (hv)
      rw [if_pos hb]
      exact wpAny_pure (wpAny_pure ⟨_, rfl, hQ _ _ (Kp.refl _) fun _ => .none⟩)
    · have hb : ¬ (decide (sp.getD (2 * k.toNat) (-1) < 0) || decide (sp.getD (2 * k.toNat + 1) (-1) < 0)) = true := by simpa using hn
      rw [if_neg (by simpa using hn)] at hv
      cases (hv)
      rw [if_neg hb]
      show wpAny _ _ (reTextOf (.str x tk) >>= _) _ _ s
      rw [show reTextOf (.str x tk) = pure (x.cps, 0) from rfl]
      refine wpAny_bind (wpAny_pure ?_)
      show wpAny _ _ (mkStr ⟨x.cps.extract _ _⟩) _ _ s
      refine wpAny_mkStr (wpAny_pure ⟨_, rfl, hQ _ _ (Kp.tok ..) fun _ => .str _ _⟩) ?_
      have : sizeLine = 2 ^ 24 := rfl
      have h2 : x.cps.size ≤ 100 := hc.2
      show (x.cps.extract _ _).size ≤ sizeLine
      rw [Array.size_extract]
      omega
  · exact nn0 hv
theorem method_rp {M : Model} {A : Around} {E : Value → Shared → Prop} {s : Shared} {a : Addr} {v : Array Value} {pl : Sem Bool} {sl : Array (Option Value)} {Q : Value × List Value → Shared → Prop} (e : s.heap.get? a = some ⟨.type "re.Pattern", none, .fields v, sl⟩) (h : Q (.builtin "re.Pattern.search", [.ref a]) s) :
    wpAny M A (getMethod (.ref a) "search" pl) Q E s :=
  getMethod_builtin ⟨_, e, rfl⟩ plainAttrs_rp slot_rp_search type_rp_search (fun b z => by cases (z); exact ⟨_, e, rfl⟩) h
theorem method_rm {M : Model} {A : Around} {E : Value → Shared → Prop} {s : Shared} {a : Addr} {v : Array Value} {pl : Sem Bool} {Q : Value × List Value → Shared → Prop} (e : s.heap.get? a = some { cls := .type "re.Match", data := .fields v }) (h : Q (.builtin "re.Match.group", [.ref a]) s) :
    wpAny M A (getMethod (.ref a) "group" pl) Q E s :=
  getMethod_builtin ⟨_, e, rfl⟩ plainAttrs_rm slot_rm_group type_rm_group (fun b z => by cases (z); exact ⟨_, e, rfl⟩) h
namespace XE
variable {u : U} {n : Nat} {C : Nm}
noncomputable def search (x : Str) (pa ca : Addr) {v0 v1 v3 v4 : Value} {gr : Int} {gt ft : Tok} {items : Array Value} {nn : Nat} {sl sl' : Array (Option Value)} {oc' : Value} {od' : Option Addr} (es : XA u n C) (np apos p : Pos) (e0 : u.G.lookup x = some (.ref pa)) (hx : x ∈ C.globs) (hd : (x == ("__debug__" : Str)) = false)
    (hp : u.K.lookup pa = some ⟨.type "re.Pattern", Option.none, .fields #[v0, v1, .int gr gt, v3, v4, .ref ca, .int 0 ft], sl⟩) (hc : u.K.lookup ca = some ⟨oc', od', .seq items nn, sl'⟩)
    (code : Array Nat) (gn : Nat) (hcd : (items.map reRawOf).map (·.toNat) = code) (hgn : gr.toNat = gn) (hline : (apos.endLine == p.line) = true) (hb : ∀ env, attributeBase (.Name x np) "search" env (eval (.Name x np) env) = eval (.Name x np) env) : XE u n C where
  e := .Call (.Attribute (.Name x np) "search" apos) (exprs [es]) [] p
  den σ := match es.x.den σ with
    | some (.str t, _) => match searchV code gn t with
      | some v => some (v, false)
      | .none => .none
    | _ => .none
  snd := by
    intro σ v b h d s cs D I
    (refine Classical.byContradiction fun hnn => ?_; split at (h) <;> (refine hnn ?_; clear hnn))
    · rename_i t f ht
      (refine Classical.byContradiction fun hnn => ?_; split at (h) <;> (refine hnn ?_; clear hnn))
      · rename_i v' hv
        cases (h)
        refine meth_gen (hb _) (show (1 : Nat) < 29 by decide) hline (ex ((XE.glob (n := n) (C := C) x (.ref pa) np e0 hx hd).snd σ _ _ rfl d s cs D I) fun ov s₁ q => fun pl => ?_)
        have I1 := I.keeps q.1.le
        have q2 := q.2
        (refine R.rawC q2 fun z621 => ?_; clear q2; cases (z621))
        refine method_rp (D.base.X.keeps (I1.leB D).le _ _ hp) ?_
        have hden : denL [es] σ = some ([.str t], f || false) := by unfold denL; rw [ht]; rfl
        refine callWith_ok hden Keepable.bi D I1 fun us s₂ k I2 r => ?_
        refine Rs.consC r fun y _ eqx rX r0 => ?_
        clear r; cases (eqx); revert rX; intro r
        (refine Rs.nilC r0 fun z622 => ?_; clear r0; cases (z622))
        (refine R.strC r fun _ z623 => ?_; clear r; cases (z623))
        exact call_search (H := hid C d cs false) (D.base.X.keeps (I2.leB D).le _ _ hp) (D.base.X.keeps (I2.leB D).le _ _ hc) (by rw [hcd, hgn]; exact hv) (I2.lt' D _) fun y s' kp r => ⟨(q.1.trans k).trans kp, r⟩
      · exact nn0 h
    · exact nn0 h
noncomputable def group (a : XE u n C) (es : XA u n C) (apos p : Pos) (hline : (apos.endLine == p.line) = true) (hb : ∀ env, attributeBase a.e "group" env (eval a.e env) = eval a.e env) : XE u n C where
  e := .Call (.Attribute a.e "group" apos) (exprs [es]) [] p
  den σ := match a.den σ with
    | some (.mtch x sp, _) => match es.x.den σ with
      | some (.int k, _) => match groupV x sp k with
        | some v => some (v, false)
        | .none => .none
      | _ => .none
    | _ => .none
  snd := by
    intro σ v b h d s cs D I
    (refine Classical.byContradiction fun hnn => ?_; split at (h) <;> (refine hnn ?_; clear hnn))
    · rename_i x sp f ha
      (refine Classical.byContradiction fun hnn => ?_; split at (h) <;> (refine hnn ?_; clear hnn))
      · rename_i k g hk
        (refine Classical.byContradiction fun hnn => ?_; split at (h) <;> (refine hnn ?_; clear hnn))
        · rename_i v' hv
          cases (h)
          refine meth_gen (hb _) (show (1 : Nat) < 29 by decide) hline (ex (a.snd σ _ f ha d s cs D I) fun ov s₁ q => fun pl => ?_)
          have I1 := I.keeps q.1.le
          have q2 := q.2
          refine R.mtchC q2 fun ad bd tk p x1 x2 x3 nn eqx e1 e2 => ?_
          clear q2; cases (eqx)
          have e1 := of_hideAll _ e1
          have e2 := of_hideAll _ e2
          refine method_rm e1 ?_
          have hden : denL [es] σ = some ([.int k], g || false) := by unfold denL; rw [hk]; rfl
          refine callWith_ok hden Keepable.bi D I1 fun us s₂ k I2 r => ?_
          refine Rs.consC r fun y _ eqx rX r0 => ?_
          clear r; cases (eqx); revert rX; intro r
          (refine Rs.nilC r0 fun z627 => ?_; clear r0; cases (z627))
          (refine R.intC r fun _ z628 => ?_; clear r; cases (z628))
          exact call_group (k.le _ _ e1) (k.le _ _ e2) hv fun y s' kp r => ⟨(q.1.trans k).trans kp, r _⟩
        · exact nn0 h
      · exact nn0 h
    · exact nn0 h
end XE
namespace XT
variable {u : U} {n : Nat} {C : Nm}
noncomputable def mval (a : XE u n C) (hf : ∀ env whole, PySem.isTrue a.e env whole = (do let v ← whole; standAt a.e.pos; holding [v] (truthy v))) : XT u n C where
  e := a.e
  den σ := match a.den σ with
    | some (.mtch _ _, _) => some true
    | some (.none, _) => some false
    | _ => .none
  snd := by
    intro σ c h d s cs D I
    (refine Classical.byContradiction fun hnn => ?_; split at (h) <;> (refine hnn ?_; clear hnn))
    · rename_i x sp f hx
      cases (h)
      refine wpAny_isTrue_value (ex (a.snd σ _ f hx d s cs D I) fun v s₁ q => ?_) (hf _ _)
      have q2 := q.2
      refine R.mtchC q2 fun _ _ _ _ _ _ _ _ eqx e1 e2 => ?_
      clear q2; cases (eqx)
      exact truthy_rm ⟨_, of_hideAll _ e1, rfl⟩ ⟨q.1, rfl⟩
    · rename_i f hx
      cases (h)
      refine wpAny_isTrue_value (ex (a.snd σ _ f hx d s cs D I) fun v s₁ q => ?_) (hf _ _)
      have q2 := q.2
      (refine R.noneC q2 fun z634 => ?_; clear q2; cases (z634))
      exact truthy_none ⟨q.1, rfl⟩
    · exact nn0 h
end XT
noncomputable def intC (u : U) (n : Nat) : Co u n (.type "int") where
  den args := match args with
    | [.str x] => if decide (x.length ≤ 640) then match PySem.intText? x with
      | some k => some (.int k)
      | none => none else none
    | _ => none
  ok := by
    intro args r h hb A W s vs B rm le al rs
    (refine Classical.byContradiction fun hnn => ?_; split at (h) <;> (refine hnn ?_; clear hnn))
    · rename_i x
      (refine Classical.byContradiction fun hnn => ?_; split at (h) <;> (refine hnn ?_; clear hnn))
      · rename_i hl
        (refine Classical.byContradiction fun hnn => ?_; split at (h) <;> (refine hnn ?_; clear hnn))
        · rename_i k hk
          cases (h)
          refine Rs.consC rs fun _ _ eqx a rX => ?_
          clear rs; cases (eqx); revert rX; intro rs
          (refine Rs.nilC rs fun z637 => ?_; clear rs; cases (z637))
          (refine R.strC a fun _ z638 => ?_; clear a; cases (z638))
          exact PySem.W.KIN.call_text hk (of_decide_eq_true hl) ⟨Kp.tok .., .int _ _⟩
        · exact nn0 h
      · exact nn0 h
    · exact nn0 h
noncomputable def keyText (e : DictEntry) : Str := match e.key with
  | .str y _ => y
  | _ => ("" : Str)
theorem keys_find {P : Params} : ∀ {es : List DictEntry}, KeysLit P es → ∀ x : Str, (es.find? (fun e => Value.isStrOf x e.key)).isSome = (es.map keyText).contains x
  | [], _, x => rfl
  | e :: r, ⟨⟨y, t, e1, _⟩, hr⟩, x => by
    have ih := keys_find hr x
    rw [List.find?_cons, List.map_cons, List.contains_cons]
    have hk : keyText e = y := by unfold keyText; rw [e1]
    have hi : Value.isStrOf x e.key = (y == x) := by rw [e1]; exact (isStr_of x (.str y t)).symm
    rw [hk, hi]
    by_cases q : y = x
    · rw [q, beq_self_eq_true]; rfl
    · rw [beq_eq_false_iff_ne.mpr q, beq_eq_false_iff_ne.mpr (Ne.symm q)]
      exact ih
namespace XT
variable {u : U} {n : Nat} {C : Nm}
noncomputable def inD (a : XE u n C) (y : Str) (da : Addr) {es : Array DictEntry} {nn : Nat} (yp p : Pos) (e0 : u.G.lookup y = some (.ref da)) (hy : y ∈ C.globs) (hd : (y == ("__debug__" : Str)) = false)
    (hl : u.K.lookup da = some ⟨.type "dict", none, .dict es nn, #[]⟩) (hk : KeysLit u.w.params es.toList) (lo : (da == sysModules) = false) (ks : List Str) (hks : es.toList.map keyText = ks) (hm : behindInMarks .In (.Name y yp) = false) : XT u n C where
  e := .Compare a.e [.In] [.Name y yp] p
  den σ := match a.den σ with
    | some (.str x, _) => some (ks.contains x)
    | _ => none
  snd := by
    intro σ c h d s cs D I
    (refine Classical.byContradiction fun hnn => ?_; split at (h) <;> (refine hnn ?_; clear hnn))
    · rename_i x f hx
      cases (h)
      refine wpAny_isTrue_Compare1 (XE.two (a.snd σ _ f hx) ((XE.glob (n := n) (C := C) y (.ref da) yp e0 hy hd).snd σ _ _ rfl) D I fun v w s' k I' r1 r2 => ?_) hm
      (refine R.strC r1 fun _ z643 => ?_; clear r1; cases (z643))
      (refine R.rawC r2 fun z644 => ?_; clear r2; cases (z644))
      refine wpAny_in_of (strKind_is u.prog u.w x _) lo (mapOf_K (D.base.X.keeps (I'.leB D).le) hl hk) ?_
      refine wpAny_truthy_bool ⟨k.trans (Kp.tok ..), ?_⟩
      rw [← hks, ← keys_find hk x]
      unfold findBy
      rw [Option.isSome_map, ← Array.find?_toList]
    · exact nn0 h
end XT
structure HsRel (hs : Array Int) (es : Array (Int × Value)) : Prop where
  kys : es.map (·.1) = hs
  vals : ∀ e ∈ es.toList, ∃ t, e.2 = .int e.1 t
  hsh : ∀ e ∈ es.toList, hashInt e.1 = e.1
noncomputable def addP (hs : Array Int) (t : SetTable) (k : Int) : Option (Array Int × SetTable) :=
  if hs.contains k then some (hs, t) else
  match t.freeSlot k with
  | some (slot, wasDummy) =>
    let hs1 := SetTable.insertAt hs (t.put slot).2 k
    if (t.put slot).1.fits hs1.size then
      if !wasDummy && (t.put slot).1.tooFull then
        match (t.put slot).1.relaid hs1 (SetTable.grown hs1.size) with
        | some (t2, order) => if coversAll order hs1.size && t2.fits (order.filterMap (hs1[·]?)).size && t2.plain then some (order.filterMap (hs1[·]?), t2) else none
        | none => none
      else some (hs1, (t.put slot).1)
    else none
  | none => none
theorem HsRel.elems {prog : Program} {w : World} {hs : Array Int} {es : Array (Int × Value)} (r : HsRel hs es) : ElemsOf (intKind prog w) es.toList := fun e m => by
  refine sE (r.vals e m) fun t ht => ?_
  exact ⟨⟨e.1, by rw [ht]; exact intKind_is _ _ _ _, (r.hsh e m).symm⟩, by rw [ht]; rfl⟩
theorem insertAt_map (es : Array (Int × Value)) (p : Nat) (x : Int × Value) : (SetTable.insertAt es p x).map (·.1) = SetTable.insertAt (es.map (·.1)) p x.1 := by
  unfold SetTable.insertAt
  simp
theorem insertAt_mem {es : Array (Int × Value)} {p : Nat} {x e : Int × Value} (m : e ∈ (SetTable.insertAt es p x).toList) : e ∈ es.toList ∨ e = x := by
  unfold SetTable.insertAt at m
  rw [Array.toList_append, Array.toList_push, List.mem_append, List.mem_append, List.mem_singleton] at m
  have sub : ∀ a b, ∀ e ∈ (es.extract a b).toList, e ∈ es.toList := fun a b e m => by
    rw [Array.toList_extract] at m
    exact List.mem_of_mem_drop (List.mem_of_mem_take m)
  rcases m with (m | m) | m
  · exact .inl (sub _ _ _ m)
  · exact .inr m
  · exact .inl (sub _ _ _ m)
theorem HsRel.insert {hs : Array Int} {es : Array (Int × Value)} (r : HsRel hs es) (p : Nat) {k : Int} {t : Tok} (hk : hashInt k = k) : HsRel (SetTable.insertAt hs p k) (SetTable.insertAt es p (k, .int k t)) :=
  ⟨by rw [insertAt_map, r.kys], fun e m => (insertAt_mem m).elim (r.vals e) (fun q => by rw [q]; exact ⟨t, rfl⟩), fun e m => (insertAt_mem m).elim (r.hsh e) (fun q => by rw [q]; exact hk)⟩
theorem HsRel.order {hs : Array Int} {es : Array (Int × Value)} (r : HsRel hs es) (order : Array Nat) : HsRel (order.filterMap (hs[·]?)) (order.filterMap (es[·]?)) := by
  have sub : ∀ e ∈ (order.filterMap (es[·]?)).toList, e ∈ es.toList := fun e m => by
    rw [Array.toList_filterMap, List.mem_filterMap] at m
    refine sEA m fun i _ e1 => ?_; try clear m
    rw [← Array.getElem?_toList] at e1
    exact List.mem_of_getElem? e1
  refine ⟨?_, fun e m => r.vals e (sub e m), fun e m => r.hsh e (sub e m)⟩
  apply Array.ext'
  rw [Array.toList_map, Array.toList_filterMap, Array.toList_filterMap, List.map_filterMap]
  congr 1
  funext i
  rw [← r.kys, Array.getElem?_map]
theorem HsRel.size {hs : Array Int} {es : Array (Int × Value)} (r : HsRel hs es) : es.size = hs.size := by rw [← r.kys, Array.size_map]
noncomputable def setObj (es : Array (Int × Value)) (ep : Nat) (t : SetTable) : Obj := { cls := .type "set", data := .set es ep t }
theorem add_ok {prog : Program} {w : World} {A : Around} {E : Value → Shared → Prop} {s : Shared} {a : Addr} {es : Array (Int × Value)} {ep : Nat} {t t' : SetTable} {hs hs' : Array Int} {k : Int} {tk : Tok} {Q : Bool → Shared → Prop}
    (ho : s.heap.get? a = some (setObj es ep t)) (hf : t.fits es.size = true) (hpl : t.plain = true) (r : HsRel hs es) (hk : hashInt k = k) (hadd : addP hs t k = some (hs', t')) (hsz : hs.size + 1 < 4096)
    (hQ : ∀ b h' es' ep', h'.get? a = some (setObj es' ep' t') → t'.fits es'.size = true → HsRel hs' es' → hs'.size ≤ hs.size + 1 → t'.plain = true → Heap.SameBut a s.heap h' → Q b { s with heap := h' }) :
    wpAny (model prog w) A (setAddHashed a (.int k tk) k) Q E s := by
  have hb : es.size < scanBound := by rw [r.size]; show _ < 4096; omega
  have hel : ElemsOf (intKind prog w) es.toList := r.elems
  unfold setAddHashed setAddHashedIn
  refine wpAny_holding (wpAny_bind (wpAny_setState_of ho rfl hf ?_))
  dsimp only
  rw [byScan_of (knd := intKind prog w) rfl hb hel]
  simp only [↓reduceIte]
  unfold setAddByScan
  refine wpAny_bind (wpAny_bind (wpAny_rule (wpAny_bind ?_)))
  have hsc := wpAny_setScan_of (knd := intKind prog w) (A := A) (E := E) (adding := true) (k := k) (x := .int k tk) (intKind_is _ _ _ _) ho rfl hf hel (Q := fun m s' => s' = s ∧ m = match es.toList.findIdx? (fun e => (intKind prog w).is k e.2) with | some j => .found (0 + j) | none => .absent) ⟨rfl, rfl⟩
  have hh : (intKind prog w).hash k = k := hk
  rw [hh] at hsc
  refine wpAny_mono hsc (fun m s' q => ?_) fun _ _ e => e
  refine sA q fun z63 z64 => ?_; try clear q; (first | subst z63 | cases (z63)); (first | subst z64 | cases (z64))
  unfold addP at hadd
  cases hr : List.findIdx? (fun e => (intKind prog w).is k e.2) es.toList with
  | some j =>
    dsimp only
    refine sEA (List.findIdx?_eq_some_iff_getElem.mp hr) fun hj hpj _ => ?_
    have hm : es.toList[j] ∈ es.toList := List.getElem_mem hj
    refine sE (r.vals _ hm) fun t1 e1 => ?_
    have hp : (intKind prog w).is k es.toList[j].2 = true := hpj
    rw [e1] at hp
    have ek : es.toList[j].1 = k := by simpa [intKind, Value.isInt] using hp
    have hc : hs.contains k = true := by
      rw [← r.kys, Array.contains_iff_mem, ← Array.mem_toList_iff, Array.toList_map]
      exact List.mem_map.mpr ⟨_, hm, ek⟩
    rw [if_pos hc] at hadd
    cases (hadd)
    refine wpAny_pure (wpAny_pure ?_)
    have e : s' = { s' with heap := s'.heap } := by cases (s'); rfl
    rw [e]
    exact hQ _ _ es ep ho hf r (Nat.le_succ _) hpl (Heap.SameBut.refl a _)
  | none =>
    dsimp only
    have hc : ¬ hs.contains k = true := fun hc => by
      rw [← r.kys, Array.contains_iff_mem, ← Array.mem_toList_iff, Array.toList_map] at hc
      refine sEA (List.mem_map.mp hc) fun e me ee => ?_
      have := List.findIdx?_eq_none_iff.mp hr e me
      refine sE (r.vals e me) fun t1 e1 => ?_
      rw [e1, ← ee, intKind_is] at this
      exact nn3 this
    rw [if_neg hc] at hadd
    (refine Classical.byContradiction fun hnn => ?_; split at (hadd) <;> (refine hnn ?_; clear hnn))
    · rename_i slot wasDummy hslot
      dsimp only at hadd
      (refine Classical.byContradiction fun hnn => ?_; split at (hadd) <;> (refine hnn ?_; clear hnn))
      · rename_i hfit
        have hL : layNew t es k (.int k tk) = (SetTable.insertAt es (t.put slot).2 (k, .int k tk), (t.put slot).1, wasDummy, false) := by
          unfold layNew
          rw [hslot]
          have e1 : (SetTable.insertAt es (t.put slot).2 (k, Value.int k tk)).size = (SetTable.insertAt hs (t.put slot).2 k).size := (r.insert (t := tk) (t.put slot).2 hk).size
          dsimp only
          unfold SetTable.orStandIn
          rw [e1, hfit]; rfl
        rw [hL]
        dsimp only
        refine wpAny_bind (wpAny_pure ?_)
        have r1 := r.insert (t := tk) (t.put slot).2 hk
        have hpl1 : (t.put slot).1.plain = true := hpl
        rw [hpl1]
        simp only [↓reduceIte]
        rw [hashByValue_scannable 8 (x := .int k tk) rfl]
        refine wpAny_bind (wpAny_pure ?_)
        simp only [plainKind, ↓reduceIte]
        have e1 : (SetTable.insertAt es (t.put slot).2 (k, Value.int k tk)).size = (SetTable.insertAt hs (t.put slot).2 k).size := r1.size
        have hs1 : (SetTable.insertAt hs (t.put slot).2 k).size ≤ hs.size + 1 := by
          unfold SetTable.insertAt
          simp
          omega
        have zz : ∀ {n : Nat}, n ≤ hs.size + 1 → n ≤ sizeLine := fun h => by have : sizeLine = 2 ^ 24 := rfl; omega
        have put1 : ∀ {h : Heap} {es1 : Array (Int × Value)} {ep1 : Nat} {t1 : SetTable} (es2 : Array (Int × Value)) (t2 : SetTable), h.get? a = some (setObj es1 ep1 t1) → (h.update a (Obj.putSet es2 t2)).get? a = some (setObj es2 (ep1 + 1) t2) := fun es2 t2 h1 => by
          have := Heap.get?_update_self (Obj.putSet es2 t2) h1 (by rw [putSet_of es2 t2 rfl]; rfl)
          rw [putSet_of es2 t2 rfl] at this; exact this
        refine wpAny_bind (wpAny_storeSet_of ho rfl ?_ (zz (e1 ▸ hs1)))
        have ho1 := put1 (SetTable.insertAt es (t.put slot).2 (k, Value.int k tk)) (t.put slot).1 ho
        have sb1 := Heap.SameBut.update s'.heap a (Obj.putSet (SetTable.insertAt es (t.put slot).2 (k, Value.int k tk)) (t.put slot).1)
        (refine Classical.byContradiction fun hnn => ?_; split at (hadd) <;> (refine hnn ?_; clear hnn))
        · rename_i hfull
          (refine Classical.byContradiction fun hnn => ?_; split at (hadd) <;> (refine hnn ?_; clear hnn))
          · rename_i t2 order hrel
            (refine Classical.byContradiction fun hnn => ?_; split at (hadd) <;> (refine hnn ?_; clear hnn))
            · rename_i hcv
              cases (hadd)
              rw [Bool.and_eq_true, Bool.and_eq_true] at hcv
              rw [if_pos hfull]
              have r2 := r1.order order
              have hR : relayAll (t.put slot).1 (SetTable.insertAt es (t.put slot).2 (k, Value.int k tk)) (SetTable.grown (SetTable.insertAt es (t.put slot).2 (k, Value.int k tk)).size) = (order.filterMap ((SetTable.insertAt es (t.put slot).2 (k, Value.int k tk))[·]?), t', false) := by
                unfold relayAll
                rw [r1.kys, e1, hrel]
                dsimp only
                rw [r2.size, hcv.1.1, hcv.1.2]; rfl
              rw [hR]
              have hs2 : (order.filterMap ((SetTable.insertAt hs (t.put slot).2 k)[·]?)).size = (SetTable.insertAt hs (t.put slot).2 k).size := by
                have hcov := hcv.1.1
                unfold coversAll at hcov
                have hp := List.isPerm_iff.mp hcov
                have hall : ∀ i ∈ order.toList, i < (SetTable.insertAt hs (t.put slot).2 k).size := fun i m => List.mem_range.mp (hp.mem_iff.mp m)
                have hl : order.toList.length = (SetTable.insertAt hs (t.put slot).2 k).size := by rw [hp.length_eq, List.length_range]
                rw [← Array.length_toList, Array.toList_filterMap, ← hl]
                clear hp hl
                revert hall
                induction order.toList with
                | nil => intro _; rfl
                | cons i l ih =>
                  intro hall
                  have hi := hall i List.mem_cons_self
                  rw [List.filterMap_cons, Array.getElem?_eq_getElem hi]
                  simp [ih fun j m => hall j (List.mem_cons_of_mem _ m)]
              refine wpAny_bind (wpAny_pure ?_)
              refine wpAny_bind (wpAny_storeSet_of ho1 rfl ?_ (zz (by rw [r2.size, hs2]; exact hs1)))
              refine wpAny_pure (wpAny_pure ?_)
              exact hQ _ _ _ _ (put1 _ _ ho1) (by rw [r2.size]; exact hcv.1.2) r2 (by rw [hs2]; exact hs1) hcv.2 (sb1.trans (Heap.SameBut.update _ a _))
            · exact nn0 hadd
          · exact nn0 hadd
        · rename_i hfull
          cases (hadd)
          rw [if_neg hfull]
          refine wpAny_pure (wpAny_pure ?_)
          exact hQ _ _ _ _ ho1 (by rw [e1]; exact hfit) r1 hs1 hpl1 sb1
      · exact nn0 hadd
    · exact nn0 hadd
noncomputable def setP : List Int → Array Int → SetTable → Option (Array Int × SetTable)
  | [], hs, t => some (hs, t)
  | k :: r, hs, t => if hs.size < 4000 && hashInt k == k then match addP hs t k with
    | some (hs', t') => setP r hs' t'
    | none => none else none
theorem upd_loop {prog : Program} {w : World} {A : Around} {I S : Addr} {fp : List Addr} {n : Nat} {P : Nat → Value → Prop} {St : Nat → Heap → Prop} {R : Result → Shared → Prop} {ks : List Int} {hs' : Array Int} {t' : SetTable}
    (W : Walks prog w A.in1 I fp [I] n P St) (hSf : S ∉ fp) (hSI : S ≠ I) (hn : ks.length = n) (hval : ∀ i v, P i v → ∃ t, v = .int (ks.getD i 0) t) :
    ∀ (k i : Nat) (s : Shared) (es : Array (Int × Value)) (ep : Nat) (t : SetTable) (hs : Array Int), n - i = k → i ≤ n → St i s.heap → s.heap.get? S = some (setObj es ep t) → t.fits es.size = true → t.plain = true → HsRel hs es → setP (ks.drop i) hs t = some (hs', t') →
      (∀ s' es' ep', Sm s s' → s'.heap.get? S = some (setObj es' ep' t') → t'.fits es'.size = true → HsRel hs' es' → (∀ b o, b ≠ S → b ≠ I → s.heap.get? b = some o → s'.heap.get? b = some o) → R (.ok (.ret .none)) s') →
      codeAny (model prog w) A (.builtin "set.update.loop" ⟨[.ref S, .ref I], []⟩) R s := by
  intro k
  induction k with
  | zero =>
    intro i s es ep t hs hk hi hst ho hf hpl r hp hR
    have hin : i = n := by omega
    subst hin
    have hd : ks.drop i = [] := List.drop_eq_nil_of_le (by omega)
    rw [hd] at hp
    cases (hp)
    refine codeAny_builtin PyProof.Rows.F.entry_set_update_loop ?_
    rw [Around.under_plainId PyProof.Rows.F.plain_set_update_loop _]
    show wpAny _ A.in1 (pyNext (.ref I) >>= _) _ _ s
    refine wpAny_bind (W.done s _ _ hst fun h' tk kp => ?_)
    show wpAny _ A.in1 (ret Value.none) _ _ _
    refine wpAny_pure (hR { s with heap := h', toks := tk } es ep ⟨h', tk, rfl⟩ (kp _ _ (fun m => hSI (List.mem_singleton.mp m)) ho) hf r fun b o _ nI e => kp b o (fun m => nI (List.mem_singleton.mp m)) e)
  | succ k ih =>
    intro i s es ep t hs hk hi hst ho hf hpl r hp hR
    have hlt : i < n := by omega
    refine codeAny_builtin PyProof.Rows.F.entry_set_update_loop ?_
    rw [Around.under_plainId PyProof.Rows.F.plain_set_update_loop _]
    show wpAny _ A.in1 (pyNext (.ref I) >>= _) _ _ s
    refine wpAny_bind (W.item i s _ _ hlt hst fun v h1 tk hP hst1 kp => ?_)
    refine sE (hval i v hP) fun u z65 => ?_; (first | subst z65 | cases (z65))
    have hd : ks.drop i = ks.getD i 0 :: ks.drop (i + 1) := by
      have hl : i < ks.length := by omega
      rw [List.drop_eq_getElem_cons hl]
      simp [List.getD_eq_getElem?_getD, List.getElem?_eq_getElem hl]
    rw [hd] at hp
    generalize hx : ks.getD i 0 = x at hp ⊢
    unfold setP at hp
    (refine Classical.byContradiction fun hnn => ?_; split at (hp) <;> (refine hnn ?_; clear hnn))
    · rename_i hc
      rw [Bool.and_eq_true, decide_eq_true_eq, beq_iff_eq] at hc
      (refine Classical.byContradiction fun hnn => ?_; split at (hp) <;> (refine hnn ?_; clear hnn))
      · rename_i hs1 t1 hadd
        have ho1 : h1.get? S = some (setObj es ep t) := kp _ _ (fun m => hSI (List.mem_singleton.mp m)) ho
        show wpAny _ A.in1 (holding [Value.int x u] (setAdd S (.int x u)) >>= _) _ _ _
        refine wpAny_bind (wpAny_holding ?_)
        unfold setAdd
        refine wpAny_holding ?_
        refine wpAny_bind ((intKind prog w).pyHash (k := x) (intKind_is _ _ _ _) ?_)
        have hh : (intKind prog w).hash x = x := hc.2
        rw [hh]
        refine add_ok (s := { s with heap := h1, toks := tk + 1 }) ho1 hf hpl r hc.2 hadd (by omega) fun b h2 es2 ep2 ho2 hf2 r2 _ hpl2 sb => ?_
        have st2 : St (i + 1) h2 := W.frame _ _ _ hst1 fun b m o e => sb.extBut b o (fun q => hSf (q ▸ m)) e
        refine wpAny_pure ⟨plainId_quiet PyProof.Rows.F.plain_set_update_loop _, ih (i + 1) { s with heap := h2, toks := tk + 1 } es2 ep2 t1 hs1 (by omega) hlt st2 ho2 hf2 hpl2 r2 hp fun s' es' ep' sm ho' hf' r' kp' => ?_⟩
        exact hR s' es' ep' (Sm.trans ⟨h2, tk + 1, rfl⟩ sm) ho' hf' r' fun b o nS nI e => kp' b o nS nI (sb.extBut b o nS (kp b o (fun m => nI (List.mem_singleton.mp m)) e))
      · exact nn0 hp
    · exact nn0 hp
noncomputable def ledOf (w : World) : Bool := !(w.params.followText "set-order")
theorem set_new {prog : Program} {w : World} {A : Around} {E : Value → Shared → Prop} {s : Shared} (a : Value) {Q₁ : Value → Shared → Prop}
    (h : Q₁ (.ref s.heap.objs.size) { s with heap := s.heap.push (setObj #[] 0 (.fresh 0 0 (ledOf w))) }) :
    codeAny (model prog w) A (.call (.builtin "set.__new__") ⟨[.type "set", a], []⟩) (wants Q₁ E) s := by
  refine codeAny_of_tree ?_
  show wpAny _ A.in1 (do checkBuiltinCall "set.__new__" ⟨[.type "set", a], []⟩; again (.builtin "set.__new__" ⟨[.type "set", a], []⟩)) _ _ s
  refine wpAny_bind (wpAny_of_eq (F.newCall_set_1 a) (wpAny_pure ⟨plainId_quiet F.plain_set_new _, codeAny_builtin F.entry_set_new ?_⟩))
  rw [Around.under_plainId F.plain_set_new _]
  unfold Builtin.«set.__new__» Builtin.Frozenset.newClass
  have hsub := sub_set_self
  obtain ⟨hp, g, d, tk, os⟩ := s
  dsimp only
  wp_walk
  refine wpAny_askSetting (wpAny_pure ?_)
  dsimp only
  simp only [newObj]
  refine wpAny_bind (wpAny_alloc (wpAny_pure ?_))
  exact wpAny_pure h
theorem ints_len : ∀ {vs : List Value} {ns : List Int}, IntsAre vs ns → vs.length = ns.length
  | _, _, .nil => rfl
  | _, _, .cons _ _ r => by rw [List.length_cons, List.length_cons, ints_len r]
inductive SetQ (s : Shared) (hs' : Array Int) (t' : SetTable) (r : Value) (s₂ : Shared) : Prop
  | mk (e : r = .none) (h' : Heap) (tk : Nat) (es : Array (Int × Value)) (ep : Nat) (e2 : s₂ = { s with heap := h', toks := tk }) (h1 : h'.get? s.heap.objs.size = some (setObj es ep t')) (h2 : t'.fits es.size = true) (h3 : HsRel hs' es)
    (h4 : ∀ b o, s.heap.get? b = some o → h'.get? b = some o) : SetQ s hs' t' r s₂
set_option maxHeartbeats 3200000 in
theorem set_of_ints {prog : Program} {w : World} {A : Around} {E : Value → Shared → Prop} {s : Shared} {l : Addr} {items : Array Value} {ks : List Int} {hs' : Array Int} {t' : SetTable} {Q : Value → Shared → Prop}
    (hh : A.handled = none) (hl : s.heap.IsList l items) (hi : IntsAre items.toList ks) (hp : setP ks #[] (.fresh 0 0 (ledOf w)) = some (hs', t'))
    (h : ∀ (h' : Heap) (tk : Nat) (es : Array (Int × Value)) (ep : Nat), h'.get? s.heap.objs.size = some (setObj es ep t') → t'.fits es.size = true → HsRel hs' es →
      (∀ b o, s.heap.get? b = some o → h'.get? b = some o) → Q (.ref s.heap.objs.size) { s with heap := h', toks := tk }) :
    wpAny (model prog w) A (call (.type "set") [.ref l]) Q E s := by
  refine sEE F.called_set.mro fun c tl hmro => ?_
  have hmade := F.called_set.made
  have hsub := F.called_set.sub
  refine wpAny_call (codeAny_of_tree ?_)
  show wpAny _ _ (callAny (.type "set") _) _ _ _
  refine wpAny_pure ⟨Code.quiet_builtin _ (by decide +kernel), codeAny_builtin F.entry_type_call ?_⟩
  rw [Around.under_plain (weight_type_call_type "set" [.ref l] []) rfl]
  have h1 := F.called_set.notType
  have h2 := F.called_set.canCreate
  have hct := F.typeCall_set_1 (.ref l)
  repeat (any_goals (first | assumption | wp_step))
  refine codeAny_mono (set_new (.ref l) (E := E) (Q₁ := fun obj s₁ => obj = .ref s.heap.objs.size ∧ s₁ = { s with heap := s.heap.push (setObj #[] 0 (.fresh 0 0 (ledOf w))) }) ⟨rfl, rfl⟩) fun r s₁ hr => ?_
  cases r with
  | error e => exact hr
  | ok fl =>
    cases fl with
    | ret obj =>
      refine sA hr fun z66 z67 => ?_; try clear hr; (first | subst z66 | cases (z66)); (first | subst z67 | cases (z67))
      have hS : (s.heap.push (setObj #[] 0 (.fresh 0 0 (ledOf w)))).get? s.heap.objs.size = some (setObj #[] 0 (.fresh 0 0 (ledOf w))) := Heap.get?_push_size _ rfl
      have hT : Shared.TypeIs { s with heap := s.heap.push (setObj #[] 0 (.fresh 0 0 (ledOf w))) } (.ref s.heap.objs.size) "set" := ⟨_, hS, rfl⟩
      have hli := F.called_set.init.lookup
      have hbi := F.called_set.init.bind (.ref s.heap.objs.size)
      repeat (any_goals (first | assumption | wp_step))
      refine codeAny_mono (codeAny_call_builtin (R := wants (SetQ s hs' t') E) F.called_set.init.plain F.entry_set_init (check_set_init_1 hT ?_)) fun r₂ s₂ hr₂ => ?_
      · refine sEAAE hl fun ol hol hcl nl hdl => ?_; try clear hl
        obtain ⟨ocls, odict, odata, oslots⟩ := ol
        simp only at hcl hdl
        subst hcl; subst hdl
        have hol' : (s.heap.push (setObj #[] 0 (.fresh 0 0 (ledOf w)))).get? l = some { cls := .type "list", dict := odict, data := .seq items nl, slots := oslots } := Heap.get?_push_of_some _ hol
        have hsls := F.sub_list_set
        have hslf := F.sub_list_frozenset
        have hne : (Value.type "list" == Value.type "dict") = false := by decide
        have hl1 : (s.heap.push (setObj #[] 0 (.fresh 0 0 (ledOf w)))).IsList l items := ⟨_, hol', rfl, nl, rfl⟩
        unfold Builtin.«set.__init__» noKeywords Builtin.Frozenset.updateFrom
        generalize hPI : pyIter = PI
        wp_walk
        subst hPI
        refine wpAny_pyIter_list hl1 ?_
        refine wpAny_bind (wpAny_runValue ?_)
        have hlS : l < s.heap.objs.size := Heap.lt_size hol
        have hh3 : A.in1.in1.in1.handled = none := by simp [hh]
        have hsz : (s.heap.push (setObj #[] 0 (.fresh 0 0 (ledOf w)))).objs.size = s.heap.objs.size + 1 := Heap.size_push ..
        have hneI : l ≠ (s.heap.push (setObj #[] 0 (.fresh 0 0 (ledOf w)))).objs.size := by rw [hsz]; exact Nat.ne_of_lt (Nat.lt_succ_of_lt hlS)
        have hSI : s.heap.objs.size ≠ (s.heap.push (setObj #[] 0 (.fresh 0 0 (ledOf w)))).objs.size := by rw [hsz]; exact Nat.ne_of_lt (Nat.lt_succ_self _)
        have hSf : s.heap.objs.size ∉ [(s.heap.push (setObj #[] 0 (.fresh 0 0 (ledOf w)))).objs.size, l] := by
          simp only [List.mem_cons, List.not_mem_nil, or_false, not_or]
          exact ⟨hSI, Nat.ne_of_gt hlS⟩
        have hval : ∀ (i : Nat) (v : Value), items[i]? = some v → ∃ t, v = .int (ks.getD i 0) t := fun i v hv =>
          PyProof.Rows.IntsAre.int_at hi i v (by rw [Array.getElem?_toList]; exact hv)
        have hlen : ks.length = items.size := by rw [← Array.length_toList]; exact (ints_len hi).symm
        refine upd_loop (t := .fresh 0 0 (ledOf w)) (hs := #[]) (es := #[]) (ep := 0) (Walks.list hh3 _ l hneI items) hSf hSI hlen hval (items.size - 0) 0 _ (by omega) (Nat.zero_le _)
          ⟨⟨_, Heap.get?_push_size _ rfl, rfl, rfl⟩, (hl1.push _)⟩ (Heap.get?_push_of_some _ hS) rfl rfl ⟨by simp, fun e m => (by exact nn4 m), fun e m => (by exact nn4 m)⟩ hp fun s' es' ep' sm ho' hf' r' kp => ?_
        refine sEE sm fun h' tk' z68 => ?_; try clear sm; (first | subst z68 | cases (z68))
        show wpAny _ _ _ _ _ _
        refine wpAny_pure ?_
        show wpAny _ _ (ret Value.none) _ _ _
        refine wpAny_pure ⟨rfl, h', tk', es', ep', rfl, ho', hf', r', fun b o e => ?_⟩
        have hb := Heap.lt_size e
        exact kp b o (Nat.ne_of_lt hb) (by rw [hsz]; exact Nat.ne_of_lt (Nat.lt_succ_of_lt hb)) (Heap.get?_push_of_some _ (Heap.get?_push_of_some _ e))
      · cases r₂ with
        | error e => exact hr₂
        | ok fl₂ =>
          cases fl₂ with
          | ret r =>
            obtain ⟨rfl, h', tk, es, ep, rfl, ho', hf', r', hk'⟩ := hr₂
            repeat (any_goals (first | assumption | wp_step))
            exact h _ _ es ep ho' hf' r' hk'
          | _ => exact hr₂.elim
    | _ => exact hr.elim
section
open PySem.F
theorem slot_si_next : Slot "set_iterator" "__next__" "set_iterator.__next__" :=
  .of (owner := "set_iterator") (n := "__next__") (by rw [typeLookup_type, builtinLookup_eq_fast]; kernel_rfl) (by decide +kernel) (by decide +kernel) (by decide +kernel)
    (by first | exact .inl (by decide +kernel) | exact .inr (by decide +kernel)) (by rw [isSubtype_type]; kernel_rfl)
theorem entry_si_next : entryFor table "set_iterator.__next__" = some Builtin.«set_iterator.__next__» := entryFor_of_tree (by kernel_rfl)
theorem owner_si : Manifest.owners.lookup (String.ofList ['r','o','t','a','r','e','t','i','_','t','e','s'].reverse) = some Manifest.sig_set_iterator := by kernel_rfl
theorem args_si_next (a : Value) : argsOk "set_iterator.__next__" ⟨[a], []⟩ := by
  unfold argsOk; rw [signature?_of (id := "set_iterator.__next__") (n := ['_','_','t','x','e','n','_','_']) (o := ['r','o','t','a','r','e','t','i','_','t','e','s']) (by kernel_rfl) owner_si]; kernel_rfl
theorem slot_si_iter : Slot "set_iterator" "__iter__" "set_iterator.__iter__" :=
  .of (owner := "set_iterator") (n := "__iter__") (by rw [typeLookup_type, builtinLookup_eq_fast]; kernel_rfl) (by decide +kernel) (by decide +kernel) (by decide +kernel)
    (by first | exact .inl (by decide +kernel) | exact .inr (by decide +kernel)) (by rw [isSubtype_type]; kernel_rfl)
theorem entry_si_iter : entryFor table "set_iterator.__iter__" = some Builtin.«dict_keyiterator.__iter__» :=
  entryFor_alias (id' := "dict_keyiterator.__iter__") (by kernel_rfl) rfl (by decide +kernel) (by kernel_rfl)
theorem args_si_iter (a : Value) : argsOk "set_iterator.__iter__" ⟨[a], []⟩ := by
  unfold argsOk; rw [signature?_of (id := "set_iterator.__iter__") (n := ['_','_','r','e','t','i','_','_']) (o := ['r','o','t','a','r','e','t','i','_','t','e','s']) (by kernel_rfl) owner_si]; kernel_rfl
theorem entry_set_iter : entryFor table "set.__iter__" = some Builtin.«frozenset.__iter__» :=
  entryFor_alias (id' := "frozenset.__iter__") (by kernel_rfl) rfl (by decide +kernel) (by kernel_rfl)
end
section
variable {prog : Program} {w : World} {A : Around} {E : Value → Shared → Prop} {s : Shared}
theorem hint_set {r : Addr} {Q : Bool → Shared → Prop} (hT : s.TypeIs (.ref r) "set") (h : Q false s) : wpAny (model prog w) A (Builtin.List.listLengthHint (.ref r)) Q E s := by
  unfold Builtin.List.listLengthHint
  refine wpAny_bind (wpAny_specialOf hT PySem.F.slot_set_len.lookup ?_)
  generalize hid : ("set.__len__" : String) = id0
  wp_delta
  rw [show splitId id0 = some ("set", "__len__") from by subst hid; decide +kernel]
  subst hid
  refine wpAny_bind (wpAny_isInstance (T := "set") (b := true) hT (by rw [isSubtype_type]; kernel_rfl) ?_)
  refine wpAny_ite_split (fun hab => absurd hab (by decide)) (fun _ => ?_)
  refine wpAny_ite_split (fun _ => ?_) (fun hab => absurd (by decide +kernel) hab)
  refine wpAny_bind (wpAny_typeOf hT ?_)
  exact wpAny_pure h
end
noncomputable def ordE (w : World) (a : Addr) (es : Array (Int × Value)) (ep : Nat) : Array (Int × Value) :=
  if w.params.followText "set-order" then pickOrder (w.params.setOrder a ep) es else es
noncomputable def slotP (w : World) (t : SetTable) : Nat → Nat
  | 0 => 0
  | i + 1 => if w.params.followText "set-order" then 0 else t.place.getD i 0 + 1
noncomputable def placeP (t : SetTable) : Nat → Nat
  | 0 => 0
  | i + 1 => t.place.getD i 0 + 1
noncomputable def walkB (t : SetTable) (n : Nat) : Bool := (List.range (n + 1)).all fun i => SetTable.below t.place (placeP t i) == i
theorem slotP_text {w : World} (t : SetTable) (h : w.params.followText "set-order" = true) : ∀ i, slotP w t i = 0
  | 0 => rfl
  | i + 1 => if_pos h
theorem slotP_led {w : World} (t : SetTable) (h : w.params.followText "set-order" = false) : ∀ i, slotP w t i = placeP t i
  | 0 => rfl
  | i + 1 => if_neg (by rw [h]; decide)
theorem eraseIdx_perm {α : Type} : ∀ {l : List α} {i : Nat} (h : i < l.length), (l[i] :: l.eraseIdx i).Perm l
  | x :: l, 0, _ => .refl _
  | x :: l, i + 1, h => by
    rw [List.eraseIdx_cons_succ, List.getElem_cons_succ]
    exact (List.Perm.swap _ _ _).trans (List.Perm.cons _ (eraseIdx_perm (by simpa using h)))
theorem pick_go {α : Type} (next : Nat → Nat) : ∀ (fuel k : Nat) (left : List α) (out : Array α), left.length ≤ fuel → (pickOrder.go next fuel k left out).toList.Perm (out.toList ++ left)
  | 0, k, left, out, h => by
    have : left = [] := List.eq_nil_of_length_eq_zero (by omega)
    subst this
    unfold pickOrder.go
    simp
  | fuel + 1, k, left, out, h => by
    unfold pickOrder.go
    cases left with
    | nil => simp
    | cons x l =>
      have hlt : next k % (x :: l).length < (x :: l).length := Nat.mod_lt _ (by simp)
      rw [List.getElem?_eq_getElem hlt]
      dsimp only
      refine (pick_go next fuel (k + 1) _ _ (by rw [List.length_eraseIdx_of_lt hlt]; omega)).trans ?_
      rw [Array.toList_push, List.append_assoc]
      refine List.Perm.append_left _ ?_
      exact eraseIdx_perm hlt
theorem ord_perm (w : World) (a : Addr) (es : Array (Int × Value)) (ep : Nat) : (ordE w a es ep).toList.Perm es.toList := by
  unfold ordE
  split
  · have := pick_go (w.params.setOrder a ep) es.size 0 es.toList #[] (by simp)
    simpa [pickOrder] using this
  · exact .refl _
noncomputable def itObj (w : World) (r : Addr) (t : SetTable) (n ep i : Nat) : Obj := { cls := .type "set_iterator", data := .fields #[rawInt (slotP w t i), rawInt i, .ref r, rawInt n, rawInt ep] }
section
variable {prog : Program} {w : World} {A : Around} {E : Value → Shared → Prop} {s : Shared} {r : Addr} {es : Array (Int × Value)} {ep : Nat} {t : SetTable}
theorem set_byText {Q : Bool → Shared → Prop} (h : Q (w.params.followText "set-order") s) : wpAny (model prog w) A setsByText Q E s := by
  unfold setsByText
  exact wpAny_bind (wpAny_askSetting (wpAny_pure h))
theorem set_drawn {Q : Bool → Shared → Prop} (ho : s.heap.get? r = some (setObj es ep t)) (hf : t.fits es.size = true) (hpl : t.plain = true) (h : Q false s) : wpAny (model prog w) A (setDrawn r) Q E s := by
  unfold setDrawn
  refine wpAny_bind (wpAny_setState_of ho rfl hf ?_)
  refine wpAny_bind (set_byText ?_)
  show wpAny _ _ (pure (!w.params.followText "set-order" && (!t.plain && decide (es.size > 1)))) _ _ _
  rw [hpl]
  simp only [Bool.not_true, Bool.false_and, Bool.and_false]
  exact wpAny_pure h
theorem pyIter_set {Q : Value → Shared → Prop} (ho : s.heap.get? r = some (setObj es ep t)) (hf : t.fits es.size = true) (hpl : t.plain = true) (h : Q (.ref s.heap.objs.size) { s with heap := s.heap.push (itObj w r t es.size ep 0) }) :
    wpAny (model prog w) A (pyIter (.ref r)) Q E s := by
  have hT : s.TypeIs (.ref r) "set" := ⟨_, ho, rfl⟩
  refine wpAny_pyIter_slot hT PySem.F.slot_set_iter (wpAny_call_entry PySem.F.slot_set_iter hT entry_set_iter ?_ (PySem.F.args_set_iter_1 _))
  unfold Builtin.«frozenset.__iter__» Builtin.Frozenset.slot0 slotArgs
  simp only [List.isEmpty_nil, Bool.not_true, Bool.false_eq_true, ↓reduceIte, bind_assoc, List.length_nil, bne_self_eq_false]
  unfold Builtin.Frozenset.addrOf Builtin.Frozenset.sizeOf
  refine wpAny_bind (wpAny_pure ?_)
  try dsimp only
  refine wpAny_bind (wpAny_pure ?_)
  refine wpAny_bind (wpAny_bind (wpAny_setEntries_of ho rfl hf (wpAny_pure ?_)))
  refine wpAny_bind (set_drawn ho hf hpl ?_)
  rw [if_neg (by decide)]
  refine wpAny_bind (wpAny_pure (wpAny_bind (wpAny_setEpoch_of ho rfl hf ?_)))
  refine wpAny_bind (wpAny_newObj_type ?_ (by show (5 : Nat) ≤ sizeLine + 2; decide))
  exact wpAny_pure ⟨_, rfl, "set_iterator", _, ⟨_, Heap.get?_push_size _ rfl, rfl⟩, slot_si_next.lookup, h⟩
noncomputable def isIt (w : World) (r : Addr) (es : Array (Int × Value)) (ep : Nat) (t : SetTable) (I : Addr) (i : Nat) (h : Heap) : Prop := h.get? I = some (itObj w r t es.size ep i) ∧ h.get? r = some (setObj es ep t)
theorem setNext_ok {i : Nat} {Q : Option (Value × Nat) → Shared → Prop} (ho : s.heap.get? r = some (setObj es ep t)) (hf : t.fits es.size = true) (hpl : t.plain = true) (hled : t.led = ledOf w) (hw : walkB t es.size = true) (hi : i ≤ es.size)
    (h : Q (((ordE w r es ep)[i]?).map fun e => (e.2, slotP w t (i + 1))) s) : wpAny (model prog w) A (setNext r (slotP w t i) i ep) Q E s := by
  have hws := List.all_eq_true.mp hw i (List.mem_range.mpr (by omega))
  rw [beq_iff_eq] at hws
  unfold setNext
  refine wpAny_bind (wpAny_setState_of ho rfl hf ?_)
  dsimp only
  refine wpAny_bind (set_byText ?_)
  cases hb : w.params.followText "set-order" with
  | true =>
    rw [if_pos rfl, if_neg (by simp)]
    refine wpAny_bind ?_
    unfold setWalk
    refine wpAny_bind (wpAny_setState_of ho rfl hf ?_)
    dsimp only
    refine wpAny_bind (set_byText ?_)
    rw [hb, if_pos rfl]
    refine wpAny_bind (wpAny_askSetting (wpAny_pure (wpAny_pure ?_)))
    have e1 : ordE w r es ep = pickOrder (w.params.setOrder r ep) es := by unfold ordE; rw [if_pos hb]
    have e2 : slotP w t i = slotP w t (i + 1) := by rw [slotP_text t hb, slotP_text t hb]
    rw [e1, ← e2] at h
    exact h
  | false =>
    rw [if_neg (by decide)]
    have hl : t.led = true := by rw [hled]; unfold ledOf; rw [hb]; rfl
    have e1 : ordE w r es ep = es := by unfold ordE; rw [if_neg (by rw [hb]; decide)]
    rw [e1, slotP_led t hb (i + 1)] at h
    rw [slotP_led t hb i]
    show wpAny _ _ ((if (!t.plain && decide (es.size > 1)) = true then (unsupported "set_iterator.__next__:the-table-is-plain-no-more" : Sem (Option (Value × Nat))) else ((if (!t.led && !es.isEmpty) = true then unsupported "set:maker-not-led" else pure ()) >>= fun _ => pure (match es[SetTable.below t.place (placeP t i)]?, t.place[SetTable.below t.place (placeP t i)]? with | some (_, x), some j => some (x, j + 1) | _, _ => none)))) _ _ _
    rw [hpl, hl, hws]
    simp only [Bool.not_true, Bool.false_and, Bool.false_eq_true, if_false]
    refine wpAny_bind (wpAny_pure (wpAny_pure ?_))
    have hps : t.place.size = es.size := by
      simp only [SetTable.fits, Bool.and_eq_true, beq_iff_eq] at hf
      exact hf.1
    rcases Nat.lt_or_ge i es.size with q | q
    · rw [Array.getElem?_eq_getElem q] at h ⊢
      have q2 : i < t.place.size := hps ▸ q
      rw [Array.getElem?_eq_getElem q2]
      have : placeP t (i + 1) = t.place[i] + 1 := by
        show t.place.getD i 0 + 1 = _
        rw [Array.getD_eq_getD_getElem?, Array.getElem?_eq_getElem q2]; rfl
      rw [this] at h
      exact h
    · rw [Array.getElem?_eq_none q] at h ⊢
      exact h
end
section
variable {prog : Program} {w : World} {A : Around} {E : Value → Shared → Prop} {s : Shared} {r I : Addr} {es : Array (Int × Value)} {ep : Nat} {t : SetTable}
theorem next_body {A : Around} {P : Fin → Shared → Prop} {i : Nat} (st : isIt w r es ep t I i s.heap) (hf : t.fits es.size = true) (hpl : t.plain = true) (hled : t.led = ledOf w) (hw : walkB t es.size = true) (hi : i ≤ es.size)
    (h : wpAny (model prog w) A (match ((ordE w r es ep)[i]?).map fun e => (e.2, slotP w t (i + 1)) with
      | some (x, next) => do
        setField (.ref I) 0 (rawInt next)
        setField (.ref I) 1 (rawInt ((i : Int) + 1))
        ret x
      | none => do setField (.ref I) 2 .none; raiseNew (← newExc (.type "StopIteration") [])) P E s) :
    wpAny (model prog w) A (Builtin.«set_iterator.__next__» ⟨[.ref I], []⟩) P E s := by
  unfold Builtin.«set_iterator.__next__»
  refine wpAny_bind (wpAny_pure ?_)
  refine wpAny_bind (wpAny_fieldsOf st.1 rfl ?_)
  show wpAny _ _ (setEntries r >>= _) _ _ _
  refine wpAny_bind (wpAny_setEntries_of st.2 rfl hf ?_)
  rw [if_neg (by simp)]
  show wpAny _ _ (setNext r ((slotP w t i : Nat) : Int).toNat ((i : Nat) : Int).toNat ((ep : Nat) : Int).toNat >>= _) _ _ _
  rw [Int.toNat_natCast, Int.toNat_natCast, Int.toNat_natCast]
  exact wpAny_bind (setNext_ok st.2 hf hpl hled hw hi h)
theorem walks_set (hh : A.handled = none) (I : Addr) (hne : r ≠ I) (hf : t.fits es.size = true) (hpl : t.plain = true) (hled : t.led = ledOf w) (hw : walkB t es.size = true) :
    Walks prog w A I [I, r] [I] es.size (fun i v => ∃ e, (ordE w r es ep)[i]? = some e ∧ v = e.2) (isIt w r es ep t I) where
  sub := fun b hb => by simp at hb; simp [hb]
  frame := fun _ _ _ st hk => ⟨hk I (by simp) _ st.1, hk r (by simp) _ st.2⟩
  item := fun i s Q E hi st hQ => by
    have hT : s.TypeIs (.ref I) "set_iterator" := ⟨_, st.1, rfl⟩
    have hsz : (ordE w r es ep).size = es.size := by
      have := (ord_perm w r es ep).length_eq
      simpa using this
    have hlt : i < (ordE w r es ep).size := by rw [hsz]; exact hi
    unfold pyNext
    refine wpAny_bind (wpAny_attempt (wpAny_callSpecial?_slot (name := Str.ofString "__next__") hT slot_si_next
      (wpAny_call_entry slot_si_next hT entry_si_next ?_ (args_si_next _))))
    refine next_body st hf hpl hled hw (Nat.le_of_lt hi) ?_
    rw [Array.getElem?_eq_getElem hlt]
    show wpAny _ _ (setField (.ref I) 0 (rawInt (slotP w t (i + 1))) >>= fun _ => setField (.ref I) 1 (rawInt ((i : Int) + 1)) >>= fun _ => ret (ordE w r es ep)[i].2) _ _ _
    refine wpAny_bind (wpAny_setField st.1 rfl (by show 0 < 5; decide) ?_)
    have g1 : (s.heap.update I (Obj.mapFields fun vs => vs.setIfInBounds 0 (rawInt (slotP w t (i + 1))))).get? I = some { cls := .type "set_iterator", data := .fields #[rawInt (slotP w t (i + 1)), rawInt i, .ref r, rawInt es.size, rawInt ep] } := Heap.get?_update_self _ st.1 rfl
    refine wpAny_bind (wpAny_setField g1 rfl (by show 1 < 5; decide) ?_)
    refine wpAny_pure ⟨_, rfl, wpAny_pure ?_⟩
    refine hQ _ _ s.toks ⟨_, Array.getElem?_eq_getElem hlt, rfl⟩ ⟨?_, ?_⟩ fun b o nb e => ?_
    · exact Heap.get?_update_self _ g1 rfl
    · exact (Heap.get?_update_other _ _ (Ne.symm hne)).trans ((Heap.get?_update_other _ _ (Ne.symm hne)).trans st.2)
    · have nI : b ≠ I := fun q => nb (q ▸ List.mem_singleton.mpr rfl)
      exact (Heap.get?_update_other _ _ (Ne.symm nI)).trans ((Heap.get?_update_other _ _ (Ne.symm nI)).trans e)
  done := fun s Q E st hQ => by
    have hT : s.TypeIs (.ref I) "set_iterator" := ⟨_, st.1, rfl⟩
    have hsz : (ordE w r es ep).size = es.size := by
      have := (ord_perm w r es ep).length_eq
      simpa using this
    unfold pyNext
    refine wpAny_bind (wpAny_attempt (wpAny_callSpecial?_slot (name := Str.ofString "__next__") hT slot_si_next
      (wpAny_call_entry slot_si_next hT entry_si_next ?_ (args_si_next _))))
    refine next_body st hf hpl hled hw (Nat.le_refl _) ?_
    rw [Array.getElem?_eq_none (by rw [hsz]; exact Nat.le_refl _)]
    show wpAny _ _ (setField (.ref I) 2 .none >>= fun _ => newExc (.type "StopIteration") [] >>= fun e => raiseNew e) _ _ _
    refine wpAny_bind (wpAny_setField st.1 rfl (by show 2 < 5; decide) ?_)
    refine wpAny_bind ?_
    simp only [newExc, newTuple]
    refine wpAny_bind (wpAny_newObj_type ?_ (by size_fits))
    refine wpAny_bind (m := firstArgMember _ _) (wpAny_of_eq (a := Value.none) (by first | rfl | (simp only [firstArgMember]; rfl)) ?_)
    refine wpAny_newObj_type ?_ (by size_fits)
    simp only [raiseNew]
    refine wpAny_bind (wpAny_handled ?_)
    rw [show A.in1.handled = none from hh]
    refine wpAny_bind (wpAny_pure (wpAny_throw ?_))
    refine wpAny_bind (wpAny_isInstance (T := "StopIteration") (b := true) ⟨_, Heap.get?_push_size _ rfl, rfl⟩ isSubtype_stop ?_)
    refine wpAny_pure (hQ _ s.toks fun b o nb e => ?_)
    exact (((Heap.SameBut.update ..).extBut.push _).push _) b o (fun q => nb (q ▸ List.mem_singleton.mpr rfl)) e
  self := fun i s Q E st hQ => by
    have hT : s.TypeIs (.ref I) "set_iterator" := ⟨_, st.1, rfl⟩
    refine wpAny_pyIter_slot hT slot_si_iter (wpAny_call_entry slot_si_iter hT entry_si_iter ?_ (args_si_iter _))
    show wpAny _ _ (ret (.ref I)) _ _ s
    exact wpAny_pure ⟨_, rfl, "set_iterator", _, hT, slot_si_next.lookup, hQ⟩
theorem src_set (hf : t.fits es.size = true) (hpl : t.plain = true) (hled : t.led = ledOf w) (hw : walkB t es.size = true) :
    KdlSrc prog w "set" r r es.size (fun i v => ∃ e, (ordE w r es ep)[i]? = some e ∧ v = e.2) (fun h => h.get? r = some (setObj es ep t)) where
  type := fun s h => ⟨_, h, rfl⟩
  there := fun h e => ⟨Heap.lt_size e, Heap.lt_size e⟩
  keep := fun h h' e k => k r (.inl rfl) _ e
  notList := by decide
  notTuple := by decide
  hint := fun A E s Q h hq => hint_set ⟨_, h, rfl⟩ hq
  iter := fun A s hh h => by
    have hlt := Heap.lt_size h
    refine ⟨itObj w r t es.size ep 0, isIt w r es ep t s.heap.objs.size, fun E Q hq => pyIter_set h hf hpl hq, walks_set hh _ (Nat.ne_of_lt hlt) hf hpl hled hw, ?_, Heap.get?_push_of_some _ h⟩
    exact Heap.get?_push_size _ rfl
end
noncomputable def sortSetP (ks : List Int) : Option (List Int) :=
  match setP ks #[] (.fresh 0 0 true), setP ks #[] (.fresh 0 0 false) with
  | some (h1, t1), some (h2, t2) =>
    if t1.led && !t2.led && t1.plain && t2.plain && walkB t1 h1.size && walkB t2 h2.size && decide (h1.size < 64) && h1 == h2 then some (sortL h1.toList) else none
  | _, _ => none
theorem sortSetP_of {ks ns : List Int} (h : sortSetP ks = some ns) (w : World) : ∃ hs t, setP ks #[] (.fresh 0 0 (ledOf w)) = some (hs, t) ∧ t.led = ledOf w ∧ t.plain = true ∧ walkB t hs.size = true ∧ hs.size < 64 ∧ ns = sortL hs.toList := by
  unfold sortSetP at h
  (refine Classical.byContradiction fun hnn => ?_; split at (h) <;> (refine hnn ?_; clear hnn))
  · rename_i h1 t1 h2 t2 e1 e2
    (refine Classical.byContradiction fun hnn => ?_; split at (h) <;> (refine hnn ?_; clear hnn))
    · rename_i hc
      simp only [Bool.and_eq_true, decide_eq_true_eq, beq_iff_eq, Bool.not_eq_true'] at hc
      refine sA hc fun z69 i => ?_; try clear hc; refine sA z69 fun z70 g => ?_; try clear z69; refine sA z70 fun z71 f => ?_; try clear z70; refine sA z71 fun z72 e => ?_; try clear z71; refine sA z72 fun z73 d => ?_; try clear z72; refine sA z73 fun z74 c => ?_; try clear z73; refine sA z74 fun a b => ?_; try clear z74
      cases (h)
      cases q : ledOf w with
      | true => exact ⟨h1, t1, e1, a, c, e, g, rfl⟩
      | false => exact ⟨h2, t2, e2, b, d, f, i ▸ g, by rw [i]⟩
    · exact nn0 h
  · exact nn0 h
theorem ints_of_items {P : Nat → Value → Prop} {l : List Int} : ∀ {vs : List Value} {k : Nat}, (∀ j v, vs[j]? = some v → ∃ t, v = Value.int (l.getD (k + j) 0) t) → k + vs.length = l.length → IntsAre vs (l.drop k)
  | [], k, _, e => by
    have : l.drop k = [] := List.drop_eq_nil_of_le (by simp at e; omega)
    rw [this]; exact .nil
  | v :: vs, k, h, e => by
    rw [List.length_cons] at e
    have hk : k < l.length := by omega
    refine sE (h 0 v rfl) fun t ht => ?_
    have hd : l.drop k = l.getD k 0 :: l.drop (k + 1) := by
      rw [List.drop_eq_getElem_cons hk]
      simp [List.getD_eq_getElem?_getD, List.getElem?_eq_getElem hk]
    rw [hd, ht]
    exact .cons _ _ (ints_of_items (P := P) (fun j v e => by have := h (j + 1) v e; rwa [show k + (j + 1) = k + 1 + j by omega] at this) (by omega))
theorem sorted_set {prog : Program} {w : World} {A : Around} {E : Value → Shared → Prop} {s : Shared} {r : Addr} {es : Array (Int × Value)} {ep : Nat} {t : SetTable} {hs : Array Int} {Q : Value → Shared → Prop}
    (hh : A.handled = none) (ho : s.heap.get? r = some (setObj es ep t)) (hf : t.fits es.size = true) (hpl : t.plain = true) (hled : t.led = ledOf w) (hw : walkB t hs.size = true) (h64 : hs.size < 64) (rel : HsRel hs es)
    (h : ∀ (s' : Shared) (D : Addr) (out : Array Value), Kp s s' → s.heap.get? D = none → s'.heap.IsList D out → IntsAre out.toList (sortL hs.toList) → Q (.ref D) s') :
    wpAny (model prog w) A (call (.builtin "sorted") [.ref r]) Q E s := by
  have hw' : walkB t es.size = true := by rw [rel.size]; exact hw
  have hn : es.size ≤ sizeLine := by rw [rel.size]; have : sizeLine = 2 ^ 24 := rfl; omega
  refine call_function_entry kind_sorted plain_sorted entry_sorted (args_sorted1 _) ?_
  unfold Builtin.«sorted»
  refine wpAny_bind (m := checkCount "sorted" 1 1 _) (wpAny_pure ?_)
  refine wpAny_bind (kdu_collect (A := A.in1) (src_set hf hpl hled hw') hh ho hn fun h' tk acc hk hacc => ?_)
  have hl : acc.toList.length = es.size := by rw [Array.length_toList]; exact hacc.1
  refine wpAny_bind (wpAny_newList ?_ (by rw [hl]; exact hn))
  dsimp only
  have hord := ord_perm w r es ep
  have hosz : (ordE w r es ep).toList.length = es.size := by have := hord.length_eq; simpa using this
  have hI : IntsAre acc.toList ((ordE w r es ep).toList.map (·.1)) := by
    have := ints_of_items (P := fun _ _ => True) (l := (ordE w r es ep).toList.map (·.1)) (vs := acc.toList) (k := 0) (fun j v e => by
      refine sEA (hacc.2 j v (by rw [← Array.getElem?_toList]; exact e)) fun x hx z75 => ?_; (first | subst z75 | cases (z75))
      have hm : x ∈ es.toList := hord.mem_iff.mp (Array.mem_toList_iff.mpr (Array.mem_of_getElem? hx))
      refine sE (rel.vals x hm) fun tt ht => ?_
      refine ⟨tt, ?_⟩
      rw [ht, Nat.zero_add, List.getD_eq_getElem?_getD, List.getElem?_map, Array.getElem?_toList, hx]; rfl) (by rw [Nat.zero_add, hl, List.length_map, hosz])
    simpa using this
  have hoL : (h'.push (seqObj "list" acc.toList.toArray 0)).get? h'.objs.size = some (seqObj "list" acc.toList.toArray 0) := Heap.get?_push_size _ rfl
  have hs64 : acc.toList.length < 64 := by rw [hl, rel.size]; exact h64
  refine wpAny_bind (wpAny_holding (wpAny_call_entry slot_list_sort ⟨_, hoL, rfl⟩ entry_list_sort (list_sort_tree (n := 0) hoL hI hs64 fun out ns' a1 a2 a3 => ⟨_, rfl, ?_⟩) (args_list_sort _)))
  have hperm : ns'.Perm hs.toList := by
    refine a2.trans ?_
    rw [← rel.kys, Array.toList_map]
    exact hord.map _
  have hsort : sortL hs.toList = ns' := (sortL_eq hperm a3).symm
  refine sE (sortedHeap_at (vs := acc.toList) (out := out) hoL) fun e' he => ?_
  refine wpAny_pure ⟨_, rfl, h _ _ out ⟨_, tk, rfl, fun b o e => ?_⟩ ?_ ⟨_, he, rfl, e', rfl⟩ (by rw [hsort]; exact a1)⟩
  · have e1 := hk b o e
    have hb : b < h'.objs.size := Heap.lt_size e1
    exact (sortedHeap_old (Nat.ne_of_lt hb) (by rw [size_push']; exact Nat.lt_succ_of_lt hb)).trans (Heap.get?_push_of_some _ e1)
  · cases q : s.heap.get? h'.objs.size with
    | none => rfl
    | some o => exact absurd (Heap.lt_size (hk _ _ q)) (Nat.lt_irrefl _)
namespace XE
variable {u : U} {n : Nat} {C : Nm}
noncomputable def sortedSet (a : XE u n C) (ha : isStarred a.e = false) (np sp cp p : Pos) (e1 : u.B.lookup ("sorted" : Str) = some (Value.builtin "sorted")) (e2 : u.B.lookup ("set" : Str) = some (Value.type "set")) (h1 : ("sorted" : Str) ∈ C.globs) (h2 : ("set" : Str) ∈ C.globs) : XE u n C where
  e := .Call (.Name "sorted" np) [.Call (.Name "set" sp) [a.e] [] cp] [] p
  den σ := match a.den σ with
    | some (.list xs, _) => match intsV xs with
      | some ks => if decide (ks.length < 4000) then match sortSetP ks with
        | some ns => some (.list (ns.map .int), false)
        | .none => .none else .none
      | .none => .none
    | _ => .none
  snd := by
    intro σ v b h d s cs D I
    (refine Classical.byContradiction fun hnn => ?_; split at (h) <;> (refine hnn ?_; clear hnn))
    · rename_i xs f hx
      (refine Classical.byContradiction fun hnn => ?_; split at (h) <;> (refine hnn ?_; clear hnn))
      · rename_i ks hks
        (refine Classical.byContradiction fun hnn => ?_; split at (h) <;> (refine hnn ?_; clear hnn))
        · rename_i hlen
          (refine Classical.byContradiction fun hnn => ?_; split at (h) <;> (refine hnn ?_; clear hnn))
          · rename_i ns hns
            cases (h)
            obtain ⟨hs, t, s1, s2, s3, s4, s5, s6⟩ := sortSetP_of hns u.w
            have hP : ∀ s', Kp s s' → u.K.In s'.heap := fun s' k => D.base.X.keeps (D.le.trans (I.keep.trans k.le))
            refine wpAny_Call_ofName (ex ((XE.bi (n := n) (C := C) "sorted" (.builtin "sorted") np e1 h1 (by decide)).snd σ _ _ rfl d s cs D I) fun g s₁ q => ?_)
            have q2 := q.2
            (refine R.rawC q2 fun z664 => ?_; clear q2; cases (z664))
            refine callWith_of (P := fun g => u.K.In g) (by rfl) (fun g X => (Keepable.bi (u := u)) g X) ?_
            have e : backTo p (starEach [PySem.Expr.Call (.Name "set" sp) [a.e] [] cp] d.env) = (false, eval (.Call (.Name "set" sp) [a.e] [] cp) d.env) :: backTo p (starEach [] d.env) := by
              rw [star_ns (e := PySem.Expr.Call (.Name "set" sp) [a.e] [] cp) rfl]; rfl
            rw [e]
            refine evalArgs_plain ?_
            rw [← e]
            have I1 := I.keeps q.1.le
            refine wpAny_items_cons (wpAny_Call_ofName (ex ((XE.bi (n := n) (C := C) "set" (.type "set") sp e2 h2 (by decide)).snd σ _ _ rfl d s₁ cs D I1) fun g s₂ q2 => ?_)) (star_ns (e := PySem.Expr.Call (.Name "set" sp) [a.e] [] cp) rfl)
            have q22 := q2.2
            (refine R.rawC q22 fun z665 => ?_; clear q22; cases (z665))
            have I2 := I1.keeps q2.1.le
            have hden : denL [(⟨a, ha⟩ : XA u n C)] σ = some ([.list xs], f || false) := by unfold denL; rw [hx]; rfl
            refine callWith_ok (es := [⟨a, ha⟩]) hden Keepable.ty D I2 fun us s₃ k3 I3 rs => ?_
            refine Rs.consC rs fun y _ eqx r r0 => ?_
            clear rs; cases (eqx)
            (refine Rs.nilC r0 fun z666 => ?_; clear r0; cases (z666))
            refine R.listC r fun us l eqx hl hr => ?_
            clear r; cases (eqx)
            have hl3 := IsList.of_hide hl
            have hi3 : IntsAre us.toArray.toList ks := by simpa using intsV_are hks hr
            refine set_of_ints D.room.handled hl3 hi3 s1 fun h' tk es ep ho hf rel kp => ?_
            refine spliced_nil ?_
            have k4 : Kp s₃ { s₃ with heap := h', toks := tk } := ⟨h', tk, rfl, kp⟩
            have kk := (q.1.trans q2.1).trans (k3.trans k4)
            refine ⟨hP _ kk, ?_⟩
            have I4 := I.keeps kk.le
            refine sorted_set D.room.handled ho hf s3 s2 s4 s5 rel fun s' D' out kp' fD hD hI => ⟨kk.trans kp', ?_⟩
            rw [s6]
            refine .list (vs := out.toList) ?_ (are_rs hI)
            refine sEA hD fun o eo z => ?_; try clear hD
            refine ⟨o, hideAll_get _ eo (fun m => I4.alive' D false _ m fD), ?_⟩
            rw [Array.toArray_toList]; exact z
          · exact nn0 h
        · exact nn0 h
      · exact nn0 h
    · exact nn0 h
end XE
namespace XE
variable {u : U} {n : Nat} {C : Nm}
noncomputable def opq (e : PySem.Expr) : XE u n C where
  e := e
  den _ := .none
  snd := by intro σ v b h; exact nn0 h
noncomputable def tupleOwn (i : Nat) (x : Str) (k : NameKind) (hx : C.slots[i]? = some (x, k)) (np fp p : Pos) (e1 : u.B.lookup ("tuple" : Str) = some (Value.type "tuple")) (h1 : ("tuple" : Str) ∈ C.globs) : XE u n C where
  e := .Call (.Name "tuple" fp) [.Name x np] [] p
  den σ := match σ[i]? with
    | some (.own _ xs) => if lenOk xs.length && xs.all V.flat then some (.tup xs, false) else .none
    | _ => .none
  snd := by
    intro σ v b h d s cs D I
    (refine Classical.byContradiction fun hnn => ?_; split at (h) <;> (refine hnn ?_; clear hnn))
    · rename_i pf xs hi
      (refine Classical.byContradiction fun hnn => ?_; split at (h) <;> (refine hnn ?_; clear hnn))
      · rename_i hc
        rw [Bool.and_eq_true] at hc
        cases (h)
        refine sEEAA (I.ownAt hi) fun ad us hca ho hr => ?_
        have hlen := of_decide_eq_true hc.1
        refine wpAny_Call_ofName (ex ((XE.bi (n := n) (C := C) "tuple" (.type "tuple") fp e1 h1 (by decide)).snd σ _ _ rfl d s cs D I) fun g s₁ q => ?_)
        have q2 := q.2
        (refine R.rawC q2 fun z673 => ?_; clear q2; cases (z673))
        have I1 := I.keeps q.1.le
        have hl : (XE.loc (u := u) (n := n) (C := C) i np x k hx).den σ = some (.list xs, true) := by simp only [XE.loc, hi]
        have hden : denL [(⟨XE.loc i np x k hx, rfl⟩ : XA u n C)] σ = some ([.list xs], true || false) := by unfold denL; rw [hl]; rfl
        refine callWith_ok (es := [⟨XE.loc i np x k hx, rfl⟩]) hden Keepable.ty D I1 fun ws s₂ k2 I2 rs => ?_
        refine Rs.consC rs fun y _ eqx r r0 => ?_
        clear rs; cases (eqx)
        (refine Rs.nilC r0 fun z674 => ?_; clear r0; cases (z674))
        refine R.listC r fun vs l eqx hl2 hr2 => ?_
        clear r; cases (eqx)
        have e := hr2.length
        refine call_tuple_list (IsList.of_hide hl2) (fun h' kk => ⟨(q.1.trans k2).trans (Kp.heap _ (Le.trans kk (Le.push _ _))), ?_⟩) ?_
        · refine .tup (vs := vs) ⟨_, hideAll_get _ (Heap.get?_push_size _ rfl) (fun m => ?_), rfl, 0, rfl⟩ (hr2.of_flat hc.2)
          have al := I2.alive' D false _ m
          cases e2 : s₂.heap.get? h'.objs.size with
          | none => exact al e2
          | some o => exact Nat.lt_irrefl _ (Heap.lt_size (kk _ _ e2))
        · have : sizeLine = 2 ^ 24 := rfl
          rw [List.size_toArray]; omega
      · exact nn0 h
    · exact nn0 h
end XE
namespace X1
variable {u : U} {n : Nat} {C : Nm}
noncomputable def opq (st : Stmt) : X1 u n C where
  st := st
  den _ := none
  snd := by intro σ fl σ' h; exact nn0 h
noncomputable def tryPass (body : XS u n C) (h0 : ExceptHandler) (hs : List ExceptHandler) (p : Pos) : X1 u n C where
  st := .Try body.ss (h0 :: hs) [] [] p
  den σ := match body.den σ with
    | some (.next, σ') => some (.next, σ')
    | _ => none
  snd := by
    intro σ fl σ' h d s cs D I
    (refine Classical.byContradiction fun hnn => ?_; split at (h) <;> (refine hnn ?_; clear hnn))
    · rename_i σ₁ hb
      cases (h)
      refine wpAny_Try_except (ex (body.snd σ _ _ hb d s cs D I) fun f s₁ q => ?_)
      refine sAEA q fun sm cs' I' z76 => ?_; try clear q; (first | subst z76 | cases (z76))
      exact wpAny_execs_nil ⟨sm, cs', I', rfl⟩
    · exact nn0 h
end X1
noncomputable def Co.lift {u : U} {n m : Nat} {f : Value} (c : Co u n f) (h : n ≤ m) : Co u m f := ⟨c.den, fun a r e => (c.ok a r e).less h⟩
noncomputable def fdOf (K : Frag) (a : Addr) : FuncData := match K.lookup a with
  | some ⟨_, _, .func fd, _⟩ => fd
  | _ => default
noncomputable def isDef (K : Frag) (a : Addr) : Bool := match K.lookup a with
  | some ⟨_, _, .func _, _⟩ => true
  | _ => false
theorem isDef_of {K : Frag} {a : Addr} (h : isDef K a = true) : ∃ oc od osl, K.lookup a = some ⟨oc, od, .func (fdOf K a), osl⟩ := by
  unfold isDef at h
  unfold fdOf
  (refine Classical.byContradiction fun hnn => ?_; split at (h) <;> (refine hnn ?_; clear hnn))
  · rename_i oc od fd osl e
    rw [e]
    exact ⟨oc, od, osl, rfl⟩
  · exact nn2 h
structure DefOK (u : U) (fa : Addr) (C : Nm) (ss : List Stmt) : Prop where
  isdef : isDef u.K fa = true
  code : codeIn u.K (fdOf u.K fa).code (fdOf u.K fa).qualname = true
  body : (fdOf u.K fa).body = .stmts ss
  nm : nmB C (fdOf u.K fa).scope = true
  loc : allLocal C = true
  glob : (fdOf u.K fa).globals = mainGlobals
  bi : (fdOf u.K fa).builtins = builtinsNs
  cell : (fdOf u.K fa).scope.names.all (fun x => x.2 != .cell) = true
  co : (fdOf u.K fa).scope.isCoroutine = false
  gen : (fdOf u.K fa).scope.isGenerator = false
theorem DefOK.noCell {u : U} {fa : Addr} {C : Nm} {ss : List Stmt} (h : DefOK u fa C ss) : ∀ x ∈ (fdOf u.K fa).scope.names, x.2 ≠ .cell := fun x m => by
  have := List.all_eq_true.mp h.cell x m
  simpa using this
noncomputable def retOf : Option (Fl × List SV) → Option V
  | some (.ret v, _) => some v
  | some (.next, _) => some .none
  | _ => none
theorem retOf_some {r : Option (Fl × List SV)} {v : V} (h : retOf r = some v) : ∃ fl σ', r = some (fl, σ') ∧ (fl = .ret v ∨ (fl = .next ∧ v = .none)) := by
  unfold retOf at h
  (refine Classical.byContradiction fun hnn => ?_; split at (h) <;> (refine hnn ?_; clear hnn))
  · cases (h); exact ⟨_, _, rfl, .inl rfl⟩
  · cases (h); exact ⟨_, _, rfl, .inr ⟨rfl, rfl⟩⟩
  · exact nn0 h
noncomputable def Co.ofDef {u : U} {n : Nat} {C : Nm} {fa : Addr} (na : Nat) (body : XS u n C) (h : DefOK u fa C body.ss) (dV : List V) (dv : List Value) (hdv : ∀ h, Rs h dV dv) (hl : na + dV.length ≤ C.slots.length)
    (hbind : ∀ (s : Shared) (vs : List Value), u.K.In s.heap → vs.length = na → BindsTo s (fdOf u.K fa) ⟨vs, []⟩ ((C.slots.map (·.1)).zip (vs ++ dv))) : Co u (n + 1) (.ref fa) where
  den args := if args.length = na then retOf (body.den (sigma C (args ++ dV))) else none
  ok := by
    intro args r e
    (refine Classical.byContradiction fun hnn => ?_; split at (e) <;> (refine hnn ?_; clear hnn))
    · rename_i hna
      refine sEEA (retOf_some e) fun fl σ' e1 e2 => ?_
      refine sEEE (isDef_of h.isdef) fun oc od osl hK => ?_
      exact fn_intro body hK h.code h.body (NmOK.of h.nm) h.loc h.glob h.bi h.noCell h.co h.gen hdv (by rw [List.length_append, hna]; exact hl) (fun s vs X hv => hbind s vs X (hv.trans hna)) e1 e2
    · exact nn0 e
noncomputable def Co.ofDef0 {u : U} {n : Nat} {C : Nm} {fa : Addr} (na : Nat) (body : XS u n C) (h : DefOK u fa C body.ss) (hl : na ≤ C.slots.length)
    (hbind : ∀ vs : List Value, vs.length = na → bindArgs (fdOf u.K fa) ⟨vs, []⟩ = pure ((C.slots.map (·.1)).zip vs)) : Co u (n + 1) (.ref fa) :=
  Co.ofDef na body h [] [] (fun _ => .nil) hl fun s vs _ e => by rw [List.append_nil]; exact BindsTo.of_eq (hbind vs e)
noncomputable def Co.ofCls {u : U} {n : Nat} {C : Nm} {ca fa : Addr} (na : Nat) (body : XS u n C) (h : DefOK u fa C body.ss) (hmk : makesIn u.K ca = true) (hin : findIn u.K (.ref ca) "__init__" = some (some (.ref fa))) (hty : typeIn u.K (.ref fa) = some (.type "function")) (hl : na + 1 ≤ C.slots.length)
    (hbind : ∀ vs : List Value, vs.length = na + 1 → bindArgs (fdOf u.K fa) ⟨vs, []⟩ = pure ((C.slots.map (·.1)).zip vs)) : Co u (n + 2) (.ref ca) where
  den args := if args.length = na then match body.den (SV.self ca [] :: (sigma C (V.none :: args)).tail) with
    | some (.next, σ') => match (σ'[0]? : Option SV) with
      | some (.self c fs) => if c = ca then some (.inst ca fs) else none
      | _ => none
    | _ => none else none
  ok := by
    intro args r e
    (refine Classical.byContradiction fun hnn => ?_; split at (e) <;> (refine hnn ?_; clear hnn))
    · rename_i hna
      (refine Classical.byContradiction fun hnn => ?_; split at (e) <;> (refine hnn ?_; clear hnn))
      · rename_i σ' hrun
        (refine Classical.byContradiction fun hnn => ?_; split at (e) <;> (refine hnn ?_; clear hnn))
        · rename_i c fs hfs
          (refine Classical.byContradiction fun hnn => ?_; split at (e) <;> (refine hnn ?_; clear hnn))
          · rename_i hc
            subst hc
            (refine inj1 e ?_; clear e)
            refine sEEE (isDef_of h.isdef) fun oc od osl hK => ?_
            exact cls_intro body hmk hin hty hK h.code h.body (NmOK.of h.nm) h.loc h.glob h.bi h.noCell h.co h.gen (by rw [hna]; exact hl) (fun s vs X hv => BindsTo.of_eq (hbind vs (by rw [hv, hna]))) hrun rfl hfs
          · exact nn0 e
        · exact nn0 e
      · exact nn0 e
    · exact nn0 e
section
set_option maxHeartbeats 8000000
set_option compiler.extract_closed false
noncomputable def stmtsAt : List Nat → List Stmt → List Stmt
  | [], _ => []
  | k :: ks, l => match l[k]? with | some x => x :: stmtsAt ks l | none => stmtsAt ks l
noncomputable def viewP : { v : Program // v = { PySem.Challenge.pw_xe0043_01 with main := { PySem.Challenge.pw_xe0043_01.main with body := stmtsAt [0, 1, 3, 4, 5, 11, 12, 13, 15, 16, 17, 18, 19, 20, 21, 22, 23, 24] PySem.Challenge.pw_xe0043_01.main.body } } } := by
  refine ⟨?v, ?h⟩
  case h =>
    delta PySem.Challenge.pw_xe0043_01
    simp only [stmtsAt, List.getElem?_cons_succ, List.getElem?_cons_zero]
    rfl
noncomputable def vw : Program := viewP.1
noncomputable abbrev lse : List Str := ["UTC_ZONES", "TIMEZONE_RE", "insort_right", "bisect_right", "bisect_left", "Whitespace"]
theorem head_of {r : OpenRow} {q : Program} {loose : List Str} {Xt : Shared → Bool} {XP : (Str → Option Value) → Heap → Prop} {H : Hook} {d : DefRec} {kwd : List (Str × Expr)} {N : Nat}
    (hX : ∀ s, Xt s = true → XP (s.heap.nsMap mainGlobals) s.heap) (hXk : ∀ mg h h', XP mg h → (∀ b o, h.get? b = some o → h'.get? b = some o) → XP mg h')
    (hdef : defOf q r.name = some (d, kwd)) (hp : r.prog.theDef r.name = some (d.params, d.body, d.scope)) (hk : kwWritten? d.params.kwonlyargs d.params.kw_defaults = some kwd) (hRf : ∀ s, Xt s = true → RecFacts r.records s.heap) (hwr : (!r.writes || r.records.isEmpty) = true)
    (k1 : r.wellSaid = true) (ok : (chainsOk q && opensWell r.prog && (frees r.toRowW && r.within.isEmpty)) = true) (hb : r.prog.bare) (hw : r.toRowW.promised)
    (hc : LeftO r.prog q loose Xt H.obs H.val N ∧ WalkO q loose XP H.says r.toRowW d kwd fun f vs => PySem.call f vs) : r.Holds :=
  holds_open hc.1 H.of H.keeps hX hXk hdef hp hk hRf hwr k1 ok hb hw hc.2
noncomputable abbrev seer (s : Shared) : Bool := xlAt vw [] s && recOk (RowW.records (PySem.Challenge.rw_xe0043_01.row.toRowW)) s
section
local macro_rules | `(tactic| o_law) => `(tactic| refine holds_law (by kernel_rfl) fun said => ?_)
local macro_rules | `(tactic| o_head $H) => `(tactic|
  refine head_of (q := vw) (loose := lse) (Xt := seer) (XP := XL vw []) (H := $H) (N := 3260) (fun s e => xl_of s (Bool.and_eq_true_iff.mp e).1) XL.keeps (by rfl) (by rfl) (by rfl) (fun s e => recFacts_of (Bool.and_eq_true_iff.mp e).2) (by rfl) (by assumption) (by decide +kernel) ⟨rfl, rfl, rfl, rfl, rfl, by decide +kernel⟩ ?hw ?hc)
open_top hd for PySem.Challenge.rw_xe0043_01
end
noncomputable abbrev seenL : List Addr := [2, 3, 32, 34, 35, 37, 38, 39, 43, 44, 45, 47, 48, 50, 51, 52, 53, 54, 56, 57, 59, 60, 61, 62, 63, 65, 66, 68, 69, 70, 71, 72, 74, 75, 77, 78, 79, 86, 88, 89, 91, 92, 93, 95, 96, 98, 99, 100, 102, 103, 105, 106, 107, 109, 110, 112, 113, 114, 115, 116, 117, 130, 132, 133, 135, 136, 137, 139, 140, 142, 143, 144, 146, 147, 149, 150, 151, 153, 154, 156, 157, 158, 160, 161, 163, 164, 165, 167, 168, 170, 171, 172, 174, 175, 177, 178, 179, 180, 181, 182, 183, 186, 188, 189, 191, 192, 193, 195, 196, 198, 199, 200, 202, 203, 205, 206, 207, 210, 211, 212, 214, 215, 217, 218, 219, 221, 222, 224, 225, 226, 228, 229, 231, 232, 233, 235, 236, 238, 239, 240, 243, 244, 245, 247, 248, 250, 251, 252, 255, 256]
noncomputable abbrev hk0 : Hook := kHook hd.heap_1 seenL (fun _ => by kernel_rfl)
theorem left_row {p q : Program} {loose : List Str} {Xt : Shared → Bool} {α : Type} {Yf : Shared → α} {Ya : World → α} {N : Nat} {g0 : Bool} (row : String)
    (hf : ∀ w : World, (openEnds treeTable p (w.withFollow row false) N).map (fun s => (openSeen q loose (importedModules p.main.body) Xt g0 s, Yf s)) = some (openGood q loose, Ya (w.withFollow row false)))
    (ht : ∀ w : World, (openEnds treeTable p (w.withFollow row true) N).map (fun s => (openSeen q loose (importedModules p.main.body) Xt g0 s, Yf s)) = some (openGood q loose, Ya (w.withFollow row true))) : LeftO p q loose Xt Yf Ya N g0 :=
  fun w => byRow2 row (P := fun w => (openEnds treeTable p w N).map (fun s => (openSeen q loose (importedModules p.main.body) Xt g0 s, Yf s)) = some (openGood q loose, Ya w)) hf ht w
theorem left_f (w : World) : (openEnds treeTable PySem.Challenge.pw_xe0043_01 (w.withFollow "special-get-raises" false) 3260).map (fun s => (openSeen vw lse (importedModules PySem.Challenge.pw_xe0043_01.main.body) seer true s, hk0.obs s)) = some (openGood vw lse, hk0.val (w.withFollow "special-get-raises" false)) := by kernel_rfl
theorem left_t (w : World) : (openEnds treeTable PySem.Challenge.pw_xe0043_01 (w.withFollow "special-get-raises" true) 3260).map (fun s => (openSeen vw lse (importedModules PySem.Challenge.pw_xe0043_01.main.body) seer true s, hk0.obs s)) = some (openGood vw lse, hk0.val (w.withFollow "special-get-raises" true)) := by kernel_rfl
theorem left : LeftO PySem.Challenge.pw_xe0043_01 vw lse seer hk0.obs hk0.val 3260 := left_row "special-get-raises" left_f left_t
end
noncomputable def gs0 : List (Str × Value) := [("UTC_ZONES", .ref 39), ("TIMEZONE_RE", .ref 44), ("offset_from_tz_string", .ref 51), ("insort_right", .ref 60), ("bisect_right", .ref 69), ("bisect_left", .ref 78), ("NannyNag", .ref 116), ("Whitespace", .ref 181), ("format_witnesses", .ref 192),
  ("_law_figures", .ref 199), ("_law_others", .ref 206), ("_law_line", .ref 211), ("_law_zone", .ref 218), ("_law_weight", .ref 225), ("_law_marks", .ref 232), ("_law_heft", .ref 239), ("_law_wholes", .ref 244), ("_law_said", .ref 251)]
noncomputable def bs0 : List (Str × Value) := [("len", .builtin "len"), ("range", .type "range"), ("divmod", .builtin "divmod"), ("tuple", .type "tuple"), ("max", .builtin "max"), ("sorted", .builtin "sorted"), ("set", .type "set"), ("str", .type "str"), ("int", .type "int")]
noncomputable def u0 (w : World) : U := ⟨PySem.Challenge.rw_xe0043_01.row.prog, w, hd.heap_1 w.params, gs0, bs0⟩
theorem ws_ok (w : World) : ClsOK (u0 w) 181 := ⟨by kernel_rfl, by kernel_rfl, by kernel_rfl, by kernel_rfl, by kernel_rfl⟩
example (w : World) : findIn (u0 w).K (.ref 181) "norm" = some none := by kernel_rfl
example (w : World) : typeIn (u0 w).K (.ref 69) = some (.type "function") := by kernel_rfl
example (w : World) : keepIn (u0 w).K (.ref 69) = true := by kernel_rfl
example (w : World) : isDef (u0 w).K 69 = true := by kernel_rfl
example (w : World) : codeIn (u0 w).K (fdOf (u0 w).K 69).code (fdOf (u0 w).K 69).qualname = true := by kernel_rfl
example (w : World) : (fdOf (u0 w).K 69).globals = mainGlobals := by kernel_rfl
example (w : World) : makesIn (u0 w).K 181 = true := by kernel_rfl
noncomputable def nm_law_figures : Nm := ⟨[("number", .local)], []⟩
noncomputable def b_law_figures (w : World) : XS (u0 w) 0 nm_law_figures :=
  (XS.cons
  (X1.ret (XE.list [⟨(XE.bin .Mod (XE.loc 0 ⟨143, 12, 143, 18⟩ "number" .local (by rfl)) (XE.int 6 0 ⟨143, 21, 143, 22⟩) ⟨143, 12, 143, 22⟩), rfl⟩, ⟨(XE.bin .Mod (XE.bin .FloorDiv (XE.loc 0 ⟨143, 24, 143, 30⟩ "number" .local (by rfl)) (XE.int 6 0 ⟨143, 34, 143, 35⟩) ⟨143, 24, 143, 35⟩) (XE.int 6 0 ⟨143, 38, 143, 39⟩) ⟨143, 24, 143, 39⟩), rfl⟩, ⟨(XE.bin .Mod (XE.bin .FloorDiv (XE.loc 0 ⟨143, 41, 143, 47⟩ "number" .local (by rfl)) (XE.int 36 0 ⟨143, 51, 143, 53⟩) ⟨143, 41, 143, 53⟩) (XE.int 6 0 ⟨143, 56, 143, 57⟩) ⟨143, 41, 143, 57⟩), rfl⟩] ⟨143, 11, 143, 58⟩ (Nat.le_of_ble_eq_true rfl)) ⟨143, 4, 143, 58⟩)
  XS.nil)
theorem d_law_figures (w : World) : DefOK (u0 w) 199 nm_law_figures (b_law_figures w).ss := ⟨by kernel_rfl, by kernel_rfl, by kernel_rfl, by kernel_rfl, by kernel_rfl, by kernel_rfl, by kernel_rfl, by kernel_rfl, by kernel_rfl, by kernel_rfl⟩
theorem e_law_figures (w : World) : ∀ vs : List Value, vs.length = 1 → bindArgs (fdOf (u0 w).K 199) ⟨vs, []⟩ = pure ((nm_law_figures.slots.map (·.1)).zip vs) := fun vs e => by
  refine len1 (P := fun l => bindArgs _ ⟨l, []⟩ = pure (List.zip _ l)) (fun a0 => ?_) vs e
  kernel_rfl
noncomputable def c_law_figures (w : World) : Co (u0 w) 1 (.ref 199) := Co.ofDef0 1 (b_law_figures w) (d_law_figures w) (by decide) (e_law_figures w)
noncomputable def nm_law_weight : Nm := ⟨[("cells", .local), ("minute", .local)], []⟩
noncomputable def b_law_weight (w : World) : XS (u0 w) 0 nm_law_weight :=
  (XS.cons
  (X1.ret (XE.bin .Add (XE.idx (XE.loc 0 ⟨168, 11, 168, 16⟩ "cells" .local (by rfl)) (XE.bin .Mod (XE.loc 1 ⟨168, 17, 168, 23⟩ "minute" .local (by rfl)) (XE.int 4 0 ⟨168, 26, 168, 27⟩) ⟨168, 17, 168, 27⟩) ⟨168, 11, 168, 28⟩) (XE.bin .Mult (XE.loc 1 ⟨168, 31, 168, 37⟩ "minute" .local (by rfl)) (XE.loc 1 ⟨168, 40, 168, 46⟩ "minute" .local (by rfl)) ⟨168, 31, 168, 46⟩) ⟨168, 11, 168, 46⟩) ⟨168, 4, 168, 46⟩)
  XS.nil)
theorem d_law_weight (w : World) : DefOK (u0 w) 225 nm_law_weight (b_law_weight w).ss := ⟨by kernel_rfl, by kernel_rfl, by kernel_rfl, by kernel_rfl, by kernel_rfl, by kernel_rfl, by kernel_rfl, by kernel_rfl, by kernel_rfl, by kernel_rfl⟩
theorem e_law_weight (w : World) : ∀ vs : List Value, vs.length = 2 → bindArgs (fdOf (u0 w).K 225) ⟨vs, []⟩ = pure ((nm_law_weight.slots.map (·.1)).zip vs) := fun vs e => by
  refine len2 (P := fun l => bindArgs _ ⟨l, []⟩ = pure (List.zip _ l)) (fun a0 a1 => ?_) vs e
  kernel_rfl
noncomputable def c_law_weight (w : World) : Co (u0 w) 1 (.ref 225) := Co.ofDef0 2 (b_law_weight w) (d_law_weight w) (by decide) (e_law_weight w)
noncomputable def nm_law_others : Nm := ⟨[("ours", .local), ("number", .local), ("place", .local)], ["_law_figures"]⟩
noncomputable def b_law_others (w : World) : XS (u0 w) 1 nm_law_others :=
  (XS.cons
  (X1.ite (XT.cmp .Eq (XE.bin .Mod (XE.loc 1 ⟨145, 7, 145, 13⟩ "number" .local (by rfl)) (XE.int 3 0 ⟨145, 16, 145, 17⟩) ⟨145, 7, 145, 17⟩) (XE.int 0 0 ⟨145, 21, 145, 22⟩) ⟨145, 7, 145, 22⟩ (by rfl)) (XS.cons
   (X1.ret (XE.slice (XE.loc 0 ⟨146, 15, 146, 19⟩ "ours" .local (by rfl)) Option.none Option.none (some (XE.neg (XE.int 1 0 ⟨146, 23, 146, 24⟩) ⟨146, 22, 146, 24⟩)) ⟨146, 20, 146, 24⟩ ⟨146, 15, 146, 25⟩) ⟨146, 8, 146, 25⟩)
   XS.nil) XS.nil ⟨145, 4, 146, 25⟩)
  (XS.cons
  (X1.ite (XT.cmp .Eq (XE.bin .Mod (XE.loc 1 ⟨147, 7, 147, 13⟩ "number" .local (by rfl)) (XE.int 3 0 ⟨147, 16, 147, 17⟩) ⟨147, 7, 147, 17⟩) (XE.int 1 0 ⟨147, 21, 147, 22⟩) ⟨147, 7, 147, 22⟩ (by rfl)) (XS.cons
   (X1.assign 2 "place" .local (by rfl) (by decide) (XE.bin .Mod (XE.bin .FloorDiv (XE.loc 1 ⟨148, 16, 148, 22⟩ "number" .local (by rfl)) (XE.int 3 0 ⟨148, 26, 148, 27⟩) ⟨148, 16, 148, 27⟩) (XE.int 3 0 ⟨148, 30, 148, 31⟩) ⟨148, 16, 148, 31⟩) ⟨148, 8, 148, 13⟩ ⟨148, 8, 148, 31⟩ (fun _ => rfl))
   (XS.cons
   (X1.ret (XE.bin .Add (XE.bin .Add (XE.slice (XE.loc 0 ⟨149, 15, 149, 19⟩ "ours" .local (by rfl)) Option.none (some (XE.loc 2 ⟨149, 21, 149, 26⟩ "place" .local (by rfl))) Option.none ⟨149, 20, 149, 26⟩ ⟨149, 15, 149, 27⟩) (XE.list [⟨(XE.bin .Mod (XE.bin .FloorDiv (XE.loc 1 ⟨149, 31, 149, 37⟩ "number" .local (by rfl)) (XE.int 9 0 ⟨149, 41, 149, 42⟩) ⟨149, 31, 149, 42⟩) (XE.int 6 0 ⟨149, 45, 149, 46⟩) ⟨149, 31, 149, 46⟩), rfl⟩] ⟨149, 30, 149, 47⟩ (Nat.le_of_ble_eq_true rfl)) ⟨149, 15, 149, 47⟩) (XE.slice (XE.loc 0 ⟨149, 50, 149, 54⟩ "ours" .local (by rfl)) (some (XE.bin .Add (XE.loc 2 ⟨149, 55, 149, 60⟩ "place" .local (by rfl)) (XE.int 1 0 ⟨149, 63, 149, 64⟩) ⟨149, 55, 149, 64⟩)) Option.none Option.none ⟨149, 55, 149, 65⟩ ⟨149, 50, 149, 66⟩) ⟨149, 15, 149, 66⟩) ⟨149, 8, 149, 66⟩)
   XS.nil)) XS.nil ⟨147, 4, 149, 66⟩)
  (XS.cons
  (X1.ret (XE.call "_law_figures" (.ref 199) ((c_law_figures w).lift (by decide)) [⟨(XE.bin .FloorDiv (XE.loc 1 ⟨150, 24, 150, 30⟩ "number" .local (by rfl)) (XE.int 3 0 ⟨150, 34, 150, 35⟩) ⟨150, 24, 150, 35⟩), rfl⟩] ⟨150, 11, 150, 23⟩ ⟨150, 11, 150, 36⟩ (by rfl) (Keepable.fn (by kernel_rfl)) (by decide +kernel) (by rfl)) ⟨150, 4, 150, 36⟩)
  XS.nil)))
theorem d_law_others (w : World) : DefOK (u0 w) 206 nm_law_others (b_law_others w).ss := ⟨by kernel_rfl, by kernel_rfl, by kernel_rfl, by kernel_rfl, by kernel_rfl, by kernel_rfl, by kernel_rfl, by kernel_rfl, by kernel_rfl, by kernel_rfl⟩
theorem e_law_others (w : World) : ∀ vs : List Value, vs.length = 2 → bindArgs (fdOf (u0 w).K 206) ⟨vs, []⟩ = pure ((nm_law_others.slots.map (·.1)).zip vs) := fun vs e => by
  refine len2 (P := fun l => bindArgs _ ⟨l, []⟩ = pure (List.zip _ l)) (fun a0 a1 => ?_) vs e
  kernel_rfl
noncomputable def c_law_others (w : World) : Co (u0 w) 2 (.ref 206) := Co.ofDef0 2 (b_law_others w) (d_law_others w) (by decide) (e_law_others w)
noncomputable def nm_law_zone : Nm := ⟨[("minute", .local), ("dress", .local), ("hour", .local), ("far", .local), ("clock", .local), ("bare", .local), ("back", .local)], ["str"]⟩
noncomputable def b_law_zone (w : World) : XS (u0 w) 0 nm_law_zone :=
  (XS.cons
  (X1.assign 3 "far" .local (by rfl) (by decide) (XE.bin .Add (XE.bin .Mult (XE.int 60 0 ⟨154, 10, 154, 12⟩) (XE.loc 2 ⟨154, 15, 154, 19⟩ "hour" .local (by rfl)) ⟨154, 10, 154, 19⟩) (XE.loc 0 ⟨154, 22, 154, 28⟩ "minute" .local (by rfl)) ⟨154, 10, 154, 28⟩) ⟨154, 4, 154, 7⟩ ⟨154, 4, 154, 28⟩ (fun _ => rfl))
  (XS.cons
  (X1.assign 4 "clock" .local (by rfl) (by decide) (XE.bin .Add (XE.str "+" 0 ⟨155, 12, 155, 15⟩) (XE.slice (XE.callB "str" (.type "str") strC [⟨(XE.bin .Add (XE.int 100 0 ⟨155, 22, 155, 25⟩) (XE.loc 2 ⟨155, 28, 155, 32⟩ "hour" .local (by rfl)) ⟨155, 22, 155, 32⟩), rfl⟩] ⟨155, 18, 155, 21⟩ ⟨155, 18, 155, 33⟩ (by rfl) Keepable.ty (by decide +kernel) (by rfl)) (some (XE.int 1 0 ⟨155, 34, 155, 35⟩)) Option.none Option.none ⟨155, 34, 155, 36⟩ ⟨155, 18, 155, 37⟩) ⟨155, 12, 155, 37⟩) ⟨155, 4, 155, 9⟩ ⟨155, 4, 155, 37⟩ (fun _ => rfl))
  (XS.cons
  (X1.assign 5 "bare" .local (by rfl) (by decide) (XE.and2 (XE.cmp .Eq (XE.loc 0 ⟨156, 11, 156, 17⟩ "minute" .local (by rfl)) (XE.int 0 0 ⟨156, 21, 156, 22⟩) ⟨156, 11, 156, 22⟩ (by rfl)) (XE.cmp .Eq (XE.bin .Mod (XE.loc 2 ⟨156, 27, 156, 31⟩ "hour" .local (by rfl)) (XE.int 2 0 ⟨156, 34, 156, 35⟩) ⟨156, 27, 156, 35⟩) (XE.int 1 0 ⟨156, 39, 156, 40⟩) ⟨156, 27, 156, 40⟩ (by rfl)) ⟨156, 11, 156, 40⟩) ⟨156, 4, 156, 8⟩ ⟨156, 4, 156, 40⟩ (fun _ => rfl))
  (XS.cons
  (X1.ite (XT.cmp .Eq (XE.loc 1 ⟨157, 7, 157, 12⟩ "dress" .local (by rfl)) (XE.int 1 0 ⟨157, 16, 157, 17⟩) ⟨157, 7, 157, 17⟩ (by rfl)) (XS.cons
   (X1.ret (XE.tup [⟨(XE.bin .Add (XE.callB "str" (.type "str") strC [⟨(XE.loc 2 ⟨158, 20, 158, 24⟩ "hour" .local (by rfl)), rfl⟩] ⟨158, 16, 158, 19⟩ ⟨158, 16, 158, 25⟩ (by rfl) Keepable.ty (by decide +kernel) (by rfl)) (XE.ifx (XT.val (XE.loc 5 ⟨158, 35, 158, 39⟩ "bare" .local (by rfl)) (fun _ _ => rfl)) (XE.str "" 0 ⟨158, 29, 158, 31⟩) (XE.slice (XE.callB "str" (.type "str") strC [⟨(XE.bin .Add (XE.int 100 0 ⟨158, 49, 158, 52⟩) (XE.loc 0 ⟨158, 55, 158, 61⟩ "minute" .local (by rfl)) ⟨158, 49, 158, 61⟩), rfl⟩] ⟨158, 45, 158, 48⟩ ⟨158, 45, 158, 62⟩ (by rfl) Keepable.ty (by decide +kernel) (by rfl)) (some (XE.int 1 0 ⟨158, 63, 158, 64⟩)) Option.none Option.none ⟨158, 63, 158, 65⟩ ⟨158, 45, 158, 66⟩) ⟨158, 29, 158, 66⟩) ⟨158, 16, 158, 67⟩), rfl⟩, ⟨(XE.bin .Mult (XE.int 60 0 ⟨158, 69, 158, 71⟩) (XE.loc 3 ⟨158, 74, 158, 77⟩ "far" .local (by rfl)) ⟨158, 69, 158, 77⟩), rfl⟩] 0 ⟨158, 15, 158, 78⟩ (Nat.le_of_ble_eq_true rfl)) ⟨158, 8, 158, 78⟩)
   XS.nil) XS.nil ⟨157, 4, 158, 78⟩)
  (XS.cons
  (X1.ite (XT.cmp .Eq (XE.loc 1 ⟨159, 7, 159, 12⟩ "dress" .local (by rfl)) (XE.int 2 0 ⟨159, 16, 159, 17⟩) ⟨159, 7, 159, 17⟩ (by rfl)) (XS.cons
   (X1.assign 6 "back" .local (by rfl) (by decide) (XE.bin .Mod (XE.neg (XE.loc 0 ⟨160, 16, 160, 22⟩ "minute" .local (by rfl)) ⟨160, 15, 160, 22⟩) (XE.int 60 0 ⟨160, 25, 160, 27⟩) ⟨160, 15, 160, 27⟩) ⟨160, 8, 160, 12⟩ ⟨160, 8, 160, 27⟩ (fun _ => rfl))
   (XS.cons
   (X1.ret (XE.tup [⟨(XE.bin .Add (XE.bin .Add (XE.bin .Add (XE.str "-" 0 ⟨161, 16, 161, 19⟩) (XE.callB "str" (.type "str") strC [⟨(XE.loc 2 ⟨161, 26, 161, 30⟩ "hour" .local (by rfl)), rfl⟩] ⟨161, 22, 161, 25⟩ ⟨161, 22, 161, 31⟩ (by rfl) Keepable.ty (by decide +kernel) (by rfl)) ⟨161, 16, 161, 31⟩) (XE.str ":" 0 ⟨161, 34, 161, 37⟩) ⟨161, 16, 161, 37⟩) (XE.ifx (XT.val (XE.loc 5 ⟨161, 47, 161, 51⟩ "bare" .local (by rfl)) (fun _ _ => rfl)) (XE.str "" 0 ⟨161, 41, 161, 43⟩) (XE.slice (XE.callB "str" (.type "str") strC [⟨(XE.bin .Add (XE.int 100 0 ⟨161, 61, 161, 64⟩) (XE.loc 6 ⟨161, 67, 161, 71⟩ "back" .local (by rfl)) ⟨161, 61, 161, 71⟩), rfl⟩] ⟨161, 57, 161, 60⟩ ⟨161, 57, 161, 72⟩ (by rfl) Keepable.ty (by decide +kernel) (by rfl)) (some (XE.int 1 0 ⟨161, 73, 161, 74⟩)) Option.none Option.none ⟨161, 73, 161, 75⟩ ⟨161, 57, 161, 76⟩) ⟨161, 41, 161, 76⟩) ⟨161, 16, 161, 77⟩), rfl⟩, ⟨(XE.bin .Mult (XE.neg (XE.int 60 0 ⟨161, 80, 161, 82⟩) ⟨161, 79, 161, 82⟩) (XE.bin .Add (XE.bin .Mult (XE.int 60 0 ⟨161, 86, 161, 88⟩) (XE.loc 2 ⟨161, 91, 161, 95⟩ "hour" .local (by rfl)) ⟨161, 86, 161, 95⟩) (XE.loc 6 ⟨161, 98, 161, 102⟩ "back" .local (by rfl)) ⟨161, 86, 161, 102⟩) ⟨161, 79, 161, 103⟩), rfl⟩] 0 ⟨161, 15, 161, 104⟩ (Nat.le_of_ble_eq_true rfl)) ⟨161, 8, 161, 104⟩)
   XS.nil)) XS.nil ⟨159, 4, 161, 104⟩)
  (XS.cons
  (X1.ite (XT.and2 (XT.cmp .Eq (XE.loc 1 ⟨162, 7, 162, 12⟩ "dress" .local (by rfl)) (XE.int 3 0 ⟨162, 16, 162, 17⟩) ⟨162, 7, 162, 17⟩ (by rfl)) (XT.cmp .Eq (XE.loc 0 ⟨162, 22, 162, 28⟩ "minute" .local (by rfl)) (XE.int 0 0 ⟨162, 32, 162, 33⟩) ⟨162, 22, 162, 33⟩ (by rfl)) ⟨162, 7, 162, 33⟩) (XS.cons
   (X1.ret (XE.tup [⟨(XE.idx (XE.list [⟨(XE.str "GMT" 0 ⟨163, 17, 163, 22⟩), rfl⟩, ⟨(XE.str "UTC" 0 ⟨163, 24, 163, 29⟩), rfl⟩, ⟨(XE.str "UT" 0 ⟨163, 31, 163, 35⟩), rfl⟩, ⟨(XE.str "Z" 0 ⟨163, 37, 163, 40⟩), rfl⟩] ⟨163, 16, 163, 41⟩ (Nat.le_of_ble_eq_true rfl)) (XE.bin .Mod (XE.loc 2 ⟨163, 42, 163, 46⟩ "hour" .local (by rfl)) (XE.int 4 0 ⟨163, 49, 163, 50⟩) ⟨163, 42, 163, 50⟩) ⟨163, 16, 163, 51⟩), rfl⟩, ⟨(XE.int 0 0 ⟨163, 53, 163, 54⟩), rfl⟩] 0 ⟨163, 15, 163, 55⟩ (Nat.le_of_ble_eq_true rfl)) ⟨163, 8, 163, 55⟩)
   XS.nil) XS.nil ⟨162, 4, 163, 55⟩)
  (XS.cons
  (X1.ite (XT.and2 (XT.cmp .Eq (XE.loc 1 ⟨164, 7, 164, 12⟩ "dress" .local (by rfl)) (XE.int 4 0 ⟨164, 16, 164, 17⟩) ⟨164, 7, 164, 17⟩ (by rfl)) (XT.cmp .Lt (XE.loc 0 ⟨164, 22, 164, 28⟩ "minute" .local (by rfl)) (XE.int 40 0 ⟨164, 31, 164, 33⟩) ⟨164, 22, 164, 33⟩ (by rfl)) ⟨164, 7, 164, 33⟩) (XS.cons
   (X1.ret (XE.tup [⟨(XE.bin .Add (XE.loc 4 ⟨165, 16, 165, 21⟩ "clock" .local (by rfl)) (XE.slice (XE.callB "str" (.type "str") strC [⟨(XE.bin .Add (XE.int 160 0 ⟨165, 28, 165, 31⟩) (XE.loc 0 ⟨165, 34, 165, 40⟩ "minute" .local (by rfl)) ⟨165, 28, 165, 40⟩), rfl⟩] ⟨165, 24, 165, 27⟩ ⟨165, 24, 165, 41⟩ (by rfl) Keepable.ty (by decide +kernel) (by rfl)) (some (XE.int 1 0 ⟨165, 42, 165, 43⟩)) Option.none Option.none ⟨165, 42, 165, 44⟩ ⟨165, 24, 165, 45⟩) ⟨165, 16, 165, 45⟩), rfl⟩, ⟨(XE.bin .Mult (XE.int 60 0 ⟨165, 47, 165, 49⟩) (XE.bin .Add (XE.loc 3 ⟨165, 53, 165, 56⟩ "far" .local (by rfl)) (XE.int 60 0 ⟨165, 59, 165, 61⟩) ⟨165, 53, 165, 61⟩) ⟨165, 47, 165, 62⟩), rfl⟩] 0 ⟨165, 15, 165, 63⟩ (Nat.le_of_ble_eq_true rfl)) ⟨165, 8, 165, 63⟩)
   XS.nil) XS.nil ⟨164, 4, 165, 63⟩)
  (XS.cons
  (X1.ret (XE.tup [⟨(XE.bin .Add (XE.loc 4 ⟨166, 12, 166, 17⟩ "clock" .local (by rfl)) (XE.ifx (XT.val (XE.loc 5 ⟨166, 27, 166, 31⟩ "bare" .local (by rfl)) (fun _ _ => rfl)) (XE.str "" 0 ⟨166, 21, 166, 23⟩) (XE.bin .Add (XE.str ":" 0 ⟨166, 37, 166, 40⟩) (XE.slice (XE.callB "str" (.type "str") strC [⟨(XE.bin .Add (XE.int 100 0 ⟨166, 47, 166, 50⟩) (XE.loc 0 ⟨166, 53, 166, 59⟩ "minute" .local (by rfl)) ⟨166, 47, 166, 59⟩), rfl⟩] ⟨166, 43, 166, 46⟩ ⟨166, 43, 166, 60⟩ (by rfl) Keepable.ty (by decide +kernel) (by rfl)) (some (XE.int 1 0 ⟨166, 61, 166, 62⟩)) Option.none Option.none ⟨166, 61, 166, 63⟩ ⟨166, 43, 166, 64⟩) ⟨166, 37, 166, 64⟩) ⟨166, 21, 166, 64⟩) ⟨166, 12, 166, 65⟩), rfl⟩, ⟨(XE.bin .Mult (XE.int 60 0 ⟨166, 67, 166, 69⟩) (XE.loc 3 ⟨166, 72, 166, 75⟩ "far" .local (by rfl)) ⟨166, 67, 166, 75⟩), rfl⟩] 0 ⟨166, 11, 166, 76⟩ (Nat.le_of_ble_eq_true rfl)) ⟨166, 4, 166, 76⟩)
  XS.nil))))))))
theorem d_law_zone (w : World) : DefOK (u0 w) 218 nm_law_zone (b_law_zone w).ss := ⟨by kernel_rfl, by kernel_rfl, by kernel_rfl, by kernel_rfl, by kernel_rfl, by kernel_rfl, by kernel_rfl, by kernel_rfl, by kernel_rfl, by kernel_rfl⟩
theorem e_law_zone (w : World) : ∀ vs : List Value, vs.length = 3 → bindArgs (fdOf (u0 w).K 218) ⟨vs, []⟩ = pure ((nm_law_zone.slots.map (·.1)).zip vs) := fun vs e => by
  refine len3 (P := fun l => bindArgs _ ⟨l, []⟩ = pure (List.zip _ l)) (fun a0 a1 a2 => ?_) vs e
  kernel_rfl
noncomputable def c_law_zone (w : World) : Co (u0 w) 1 (.ref 218) := Co.ofDef0 3 (b_law_zone w) (d_law_zone w) (by decide) (e_law_zone w)
noncomputable def nm_Whitespace_longest_run_of_spaces : Nm := ⟨[("self", .local), ("count", .local), ("trailing", .local)], ["max", "len"]⟩
noncomputable def b_Whitespace_longest_run_of_spaces (w : World) : XS (u0 w) 0 nm_Whitespace_longest_run_of_spaces :=
  (XS.cons
  (X1.assignT (XG.tup [⟨(XG.name 1 "count" .local (by rfl) (by decide) ⟨109, 8, 109, 13⟩), rfl⟩, ⟨(XG.name 2 "trailing" .local (by rfl) (by decide) ⟨109, 15, 109, 23⟩), rfl⟩] 0 ⟨109, 8, 109, 23⟩) (XE.attr (XE.loc 0 ⟨109, 26, 109, 30⟩ "self" .local (by rfl)) 181 "norm" ⟨109, 26, 109, 35⟩ (ws_ok w) (at_ := Option.none) (by kernel_rfl) (by kernel_rfl) (fun _ => rfl)) ⟨109, 8, 109, 35⟩ (by rfl) (fun _ => rfl) (fun _ => rfl))
  (XS.cons
  (X1.ret (XE.callB "max" (.builtin "max") maxC [⟨(XE.bin .Sub (XE.callB "len" (.builtin "len") lenC [⟨(XE.loc 1 ⟨110, 23, 110, 28⟩ "count" .local (by rfl)), rfl⟩] ⟨110, 19, 110, 22⟩ ⟨110, 19, 110, 29⟩ (by rfl) Keepable.bi (by decide +kernel) (by rfl)) (XE.int 1 0 ⟨110, 32, 110, 33⟩) ⟨110, 19, 110, 33⟩), rfl⟩, ⟨(XE.loc 2 ⟨110, 35, 110, 43⟩ "trailing" .local (by rfl)), rfl⟩] ⟨110, 15, 110, 18⟩ ⟨110, 15, 110, 44⟩ (by rfl) Keepable.bi (by decide +kernel) (by rfl)) ⟨110, 8, 110, 44⟩)
  XS.nil))
theorem d_Whitespace_longest_run_of_spaces (w : World) : DefOK (u0 w) 143 nm_Whitespace_longest_run_of_spaces (b_Whitespace_longest_run_of_spaces w).ss := ⟨by kernel_rfl, by kernel_rfl, by kernel_rfl, by kernel_rfl, by kernel_rfl, by kernel_rfl, by kernel_rfl, by kernel_rfl, by kernel_rfl, by kernel_rfl⟩
theorem e_Whitespace_longest_run_of_spaces (w : World) : ∀ vs : List Value, vs.length = 1 → bindArgs (fdOf (u0 w).K 143) ⟨vs, []⟩ = pure ((nm_Whitespace_longest_run_of_spaces.slots.map (·.1)).zip vs) := fun vs e => by
  refine len1 (P := fun l => bindArgs _ ⟨l, []⟩ = pure (List.zip _ l)) (fun a0 => ?_) vs e
  kernel_rfl
noncomputable def c_Whitespace_longest_run_of_spaces (w : World) : Co (u0 w) 1 (.ref 143) := Co.ofDef0 1 (b_Whitespace_longest_run_of_spaces w) (d_Whitespace_longest_run_of_spaces w) (by decide) (e_Whitespace_longest_run_of_spaces w)
noncomputable def nm_Whitespace_indent_level : Nm := ⟨[("self", .local), ("tabsize", .local), ("count", .local), ("trailing", .local), ("il", .local), ("i", .local)], ["range", "len"]⟩
noncomputable def b_Whitespace_indent_level (w : World) : XS (u0 w) 0 nm_Whitespace_indent_level :=
  (XS.cons
  (X1.assignT (XG.tup [⟨(XG.name 2 "count" .local (by rfl) (by decide) ⟨113, 8, 113, 13⟩), rfl⟩, ⟨(XG.name 3 "trailing" .local (by rfl) (by decide) ⟨113, 15, 113, 23⟩), rfl⟩] 0 ⟨113, 8, 113, 23⟩) (XE.attr (XE.loc 0 ⟨113, 26, 113, 30⟩ "self" .local (by rfl)) 181 "norm" ⟨113, 26, 113, 35⟩ (ws_ok w) (at_ := Option.none) (by kernel_rfl) (by kernel_rfl) (fun _ => rfl)) ⟨113, 8, 113, 35⟩ (by rfl) (fun _ => rfl) (fun _ => rfl))
  (XS.cons
  (X1.assign 4 "il" .local (by rfl) (by decide) (XE.int 0 0 ⟨114, 13, 114, 14⟩) ⟨114, 8, 114, 10⟩ ⟨114, 8, 114, 14⟩ (fun _ => rfl))
  (XS.cons
  (X1.for_ (XG.name 5 "i" .local (by rfl) (by decide) ⟨115, 12, 115, 13⟩) (fun _ _ => rfl) (XE.callB "range" (.type "range") rangeC [⟨(XE.loc 1 ⟨115, 23, 115, 30⟩ "tabsize" .local (by rfl)), rfl⟩, ⟨(XE.callB "len" (.builtin "len") lenC [⟨(XE.loc 2 ⟨115, 36, 115, 41⟩ "count" .local (by rfl)), rfl⟩] ⟨115, 32, 115, 35⟩ ⟨115, 32, 115, 42⟩ (by rfl) Keepable.bi (by decide +kernel) (by rfl)), rfl⟩] ⟨115, 17, 115, 22⟩ ⟨115, 17, 115, 43⟩ (by rfl) Keepable.ty (by decide +kernel) (by rfl)) (XS.cons
   (X1.assign 4 "il" .local (by rfl) (by decide) (XE.bin .Add (XE.loc 4 ⟨116, 17, 116, 19⟩ "il" .local (by rfl)) (XE.bin .Mult (XE.bin .FloorDiv (XE.loc 5 ⟨116, 22, 116, 23⟩ "i" .local (by rfl)) (XE.loc 1 ⟨116, 27, 116, 34⟩ "tabsize" .local (by rfl)) ⟨116, 22, 116, 34⟩) (XE.idx (XE.loc 2 ⟨116, 37, 116, 42⟩ "count" .local (by rfl)) (XE.loc 5 ⟨116, 43, 116, 44⟩ "i" .local (by rfl)) ⟨116, 37, 116, 45⟩) ⟨116, 22, 116, 45⟩) ⟨116, 17, 116, 45⟩) ⟨116, 12, 116, 14⟩ ⟨116, 12, 116, 45⟩ (fun _ => rfl))
   XS.nil) ⟨115, 8, 116, 45⟩ (fun _ _ => rfl))
  (XS.cons
  (X1.ret (XE.bin .Add (XE.loc 3 ⟨117, 15, 117, 23⟩ "trailing" .local (by rfl)) (XE.bin .Mult (XE.loc 1 ⟨117, 26, 117, 33⟩ "tabsize" .local (by rfl)) (XE.bin .Add (XE.loc 4 ⟨117, 37, 117, 39⟩ "il" .local (by rfl)) (XE.attr (XE.loc 0 ⟨117, 42, 117, 46⟩ "self" .local (by rfl)) 181 "nt" ⟨117, 42, 117, 49⟩ (ws_ok w) (at_ := Option.none) (by kernel_rfl) (by kernel_rfl) (fun _ => rfl)) ⟨117, 37, 117, 49⟩) ⟨117, 26, 117, 50⟩) ⟨117, 15, 117, 50⟩) ⟨117, 8, 117, 50⟩)
  XS.nil))))
theorem d_Whitespace_indent_level (w : World) : DefOK (u0 w) 150 nm_Whitespace_indent_level (b_Whitespace_indent_level w).ss := ⟨by kernel_rfl, by kernel_rfl, by kernel_rfl, by kernel_rfl, by kernel_rfl, by kernel_rfl, by kernel_rfl, by kernel_rfl, by kernel_rfl, by kernel_rfl⟩
theorem e_Whitespace_indent_level (w : World) : ∀ vs : List Value, vs.length = 2 → bindArgs (fdOf (u0 w).K 150) ⟨vs, []⟩ = pure ((nm_Whitespace_indent_level.slots.map (·.1)).zip vs) := fun vs e => by
  refine len2 (P := fun l => bindArgs _ ⟨l, []⟩ = pure (List.zip _ l)) (fun a0 a1 => ?_) vs e
  kernel_rfl
noncomputable def c_Whitespace_indent_level (w : World) : Co (u0 w) 1 (.ref 150) := Co.ofDef0 2 (b_Whitespace_indent_level w) (d_Whitespace_indent_level w) (by decide) (e_Whitespace_indent_level w)
noncomputable def nm_Whitespace_equal : Nm := ⟨[("self", .local), ("other", .local)], []⟩
noncomputable def b_Whitespace_equal (w : World) : XS (u0 w) 0 nm_Whitespace_equal :=
  (XS.cons
  (X1.ret (XE.cmp .Eq (XE.attr (XE.loc 0 ⟨120, 15, 120, 19⟩ "self" .local (by rfl)) 181 "norm" ⟨120, 15, 120, 24⟩ (ws_ok w) (at_ := Option.none) (by kernel_rfl) (by kernel_rfl) (fun _ => rfl)) (XE.attr (XE.loc 1 ⟨120, 28, 120, 33⟩ "other" .local (by rfl)) 181 "norm" ⟨120, 28, 120, 38⟩ (ws_ok w) (at_ := Option.none) (by kernel_rfl) (by kernel_rfl) (fun _ => rfl)) ⟨120, 15, 120, 38⟩ (by rfl)) ⟨120, 8, 120, 38⟩)
  XS.nil)
theorem d_Whitespace_equal (w : World) : DefOK (u0 w) 157 nm_Whitespace_equal (b_Whitespace_equal w).ss := ⟨by kernel_rfl, by kernel_rfl, by kernel_rfl, by kernel_rfl, by kernel_rfl, by kernel_rfl, by kernel_rfl, by kernel_rfl, by kernel_rfl, by kernel_rfl⟩
theorem e_Whitespace_equal (w : World) : ∀ vs : List Value, vs.length = 2 → bindArgs (fdOf (u0 w).K 157) ⟨vs, []⟩ = pure ((nm_Whitespace_equal.slots.map (·.1)).zip vs) := fun vs e => by
  refine len2 (P := fun l => bindArgs _ ⟨l, []⟩ = pure (List.zip _ l)) (fun a0 a1 => ?_) vs e
  kernel_rfl
noncomputable def c_Whitespace_equal (w : World) : Co (u0 w) 1 (.ref 157) := Co.ofDef0 2 (b_Whitespace_equal w) (d_Whitespace_equal w) (by decide) (e_Whitespace_equal w)
noncomputable def nm_Whitespace_not_equal_witness : Nm := ⟨[("self", .local), ("other", .local), ("n", .local), ("a", .local), ("ts", .local)], ["max", "range"]⟩
noncomputable def b_Whitespace_not_equal_witness (w : World) : XS (u0 w) 1 nm_Whitespace_not_equal_witness :=
  (XS.cons
  (X1.assign 2 "n" .local (by rfl) (by decide) (XE.bin .Add (XE.callB "max" (.builtin "max") maxC [⟨(XE.meth (XE.loc 0 ⟨123, 16, 123, 20⟩ "self" .local (by rfl)) 181 "longest_run_of_spaces" 143 ((c_Whitespace_longest_run_of_spaces w).lift (by decide)) [] ⟨123, 16, 123, 42⟩ ⟨123, 16, 123, 44⟩ (ws_ok w) (by kernel_rfl) (by kernel_rfl) (Keepable.fn (by kernel_rfl)) (fun _ => rfl) (Nat.le_of_ble_eq_true rfl) (by rfl)), rfl⟩, ⟨(XE.meth (XE.loc 1 ⟨123, 46, 123, 51⟩ "other" .local (by rfl)) 181 "longest_run_of_spaces" 143 ((c_Whitespace_longest_run_of_spaces w).lift (by decide)) [] ⟨123, 46, 123, 73⟩ ⟨123, 46, 123, 75⟩ (ws_ok w) (by kernel_rfl) (by kernel_rfl) (Keepable.fn (by kernel_rfl)) (fun _ => rfl) (Nat.le_of_ble_eq_true rfl) (by rfl)), rfl⟩] ⟨123, 12, 123, 15⟩ ⟨123, 12, 123, 76⟩ (by rfl) Keepable.bi (by decide +kernel) (by rfl)) (XE.int 1 0 ⟨123, 79, 123, 80⟩) ⟨123, 12, 123, 80⟩) ⟨123, 8, 123, 9⟩ ⟨123, 8, 123, 80⟩ (fun _ => rfl))
  (XS.cons
  (X1.assignOwn 3 "a" .local (by rfl) (by decide) [] (Nat.le_of_ble_eq_true rfl) ⟨124, 12, 124, 14⟩ ⟨124, 8, 124, 9⟩ ⟨124, 8, 124, 14⟩)
  (XS.cons
  (X1.for_ (XG.name 4 "ts" .local (by rfl) (by decide) ⟨125, 12, 125, 14⟩) (fun _ _ => rfl) (XE.callB "range" (.type "range") rangeC [⟨(XE.int 1 0 ⟨125, 24, 125, 25⟩), rfl⟩, ⟨(XE.bin .Add (XE.loc 2 ⟨125, 27, 125, 28⟩ "n" .local (by rfl)) (XE.int 1 0 ⟨125, 31, 125, 32⟩) ⟨125, 27, 125, 32⟩), rfl⟩] ⟨125, 18, 125, 23⟩ ⟨125, 18, 125, 33⟩ (by rfl) Keepable.ty (by decide +kernel) (by rfl)) (XS.cons
   (X1.ite (XT.cmp .NotEq (XE.meth (XE.loc 0 ⟨126, 15, 126, 19⟩ "self" .local (by rfl)) 181 "indent_level" 150 ((c_Whitespace_indent_level w).lift (by decide)) [⟨(XE.loc 4 ⟨126, 33, 126, 35⟩ "ts" .local (by rfl)), rfl⟩] ⟨126, 15, 126, 32⟩ ⟨126, 15, 126, 36⟩ (ws_ok w) (by kernel_rfl) (by kernel_rfl) (Keepable.fn (by kernel_rfl)) (fun _ => rfl) (Nat.le_of_ble_eq_true rfl) (by rfl)) (XE.meth (XE.loc 1 ⟨126, 40, 126, 45⟩ "other" .local (by rfl)) 181 "indent_level" 150 ((c_Whitespace_indent_level w).lift (by decide)) [⟨(XE.loc 4 ⟨126, 59, 126, 61⟩ "ts" .local (by rfl)), rfl⟩] ⟨126, 40, 126, 58⟩ ⟨126, 40, 126, 62⟩ (ws_ok w) (by kernel_rfl) (by kernel_rfl) (Keepable.fn (by kernel_rfl)) (fun _ => rfl) (Nat.le_of_ble_eq_true rfl) (by rfl)) ⟨126, 15, 126, 62⟩ (by rfl)) (XS.cons
    (X1.app 3 "a" .local (by rfl) ⟨(XE.tup [⟨(XE.loc 4 ⟨127, 26, 127, 28⟩ "ts" .local (by rfl)), rfl⟩, ⟨(XE.meth (XE.loc 0 ⟨127, 30, 127, 34⟩ "self" .local (by rfl)) 181 "indent_level" 150 ((c_Whitespace_indent_level w).lift (by decide)) [⟨(XE.loc 4 ⟨127, 48, 127, 50⟩ "ts" .local (by rfl)), rfl⟩] ⟨127, 30, 127, 47⟩ ⟨127, 30, 127, 51⟩ (ws_ok w) (by kernel_rfl) (by kernel_rfl) (Keepable.fn (by kernel_rfl)) (fun _ => rfl) (Nat.le_of_ble_eq_true rfl) (by rfl)), rfl⟩, ⟨(XE.meth (XE.loc 1 ⟨127, 53, 127, 58⟩ "other" .local (by rfl)) 181 "indent_level" 150 ((c_Whitespace_indent_level w).lift (by decide)) [⟨(XE.loc 4 ⟨127, 72, 127, 74⟩ "ts" .local (by rfl)), rfl⟩] ⟨127, 53, 127, 71⟩ ⟨127, 53, 127, 75⟩ (ws_ok w) (by kernel_rfl) (by kernel_rfl) (Keepable.fn (by kernel_rfl)) (fun _ => rfl) (Nat.le_of_ble_eq_true rfl) (by rfl)), rfl⟩] 0 ⟨127, 25, 127, 76⟩ (Nat.le_of_ble_eq_true rfl)), rfl⟩ ⟨127, 16, 127, 17⟩ ⟨127, 16, 127, 24⟩ ⟨127, 16, 127, 77⟩ ⟨127, 16, 127, 77⟩ (by rfl))
    XS.nil) XS.nil ⟨126, 12, 127, 77⟩)
   XS.nil) ⟨125, 8, 127, 77⟩ (fun _ _ => rfl))
  (XS.cons
  (X1.ret (XE.loc 3 ⟨128, 15, 128, 16⟩ "a" .local (by rfl)) ⟨128, 8, 128, 16⟩)
  XS.nil))))
theorem d_Whitespace_not_equal_witness (w : World) : DefOK (u0 w) 164 nm_Whitespace_not_equal_witness (b_Whitespace_not_equal_witness w).ss := ⟨by kernel_rfl, by kernel_rfl, by kernel_rfl, by kernel_rfl, by kernel_rfl, by kernel_rfl, by kernel_rfl, by kernel_rfl, by kernel_rfl, by kernel_rfl⟩
theorem e_Whitespace_not_equal_witness (w : World) : ∀ vs : List Value, vs.length = 2 → bindArgs (fdOf (u0 w).K 164) ⟨vs, []⟩ = pure ((nm_Whitespace_not_equal_witness.slots.map (·.1)).zip vs) := fun vs e => by
  refine len2 (P := fun l => bindArgs _ ⟨l, []⟩ = pure (List.zip _ l)) (fun a0 a1 => ?_) vs e
  kernel_rfl
noncomputable def c_Whitespace_not_equal_witness (w : World) : Co (u0 w) 2 (.ref 164) := Co.ofDef0 2 (b_Whitespace_not_equal_witness w) (d_Whitespace_not_equal_witness w) (by decide) (e_Whitespace_not_equal_witness w)
noncomputable def nm_law_line : Nm := ⟨[("runs", .local), ("behind", .local)], []⟩
noncomputable def nm_law_line_c1 : Nm := ⟨[("run", .local)], []⟩
noncomputable def b_law_line (w : World) : XS (u0 w) 0 nm_law_line :=
  (XS.cons
  (X1.ret (XE.bin .Add (XE.bin .Add (XE.join (XE.str "" 0 ⟨152, 11, 152, 13⟩) [⟨(XE.listComp (C' := nm_law_line_c1) 1 [] ((PySem.Expr.BinOp (left := (PySem.Expr.BinOp (left := (PySem.Expr.Constant (PySem.Const.str " ") 0 ⟨152, 20, 152, 23⟩)) (op := PySem.Operator.Mult) (right := (PySem.Expr.Name "run" ⟨152, 26, 152, 29⟩)) (pos := ⟨152, 20, 152, 29⟩))) (op := PySem.Operator.Add) (right := (PySem.Expr.Constant (PySem.Const.str "\t") 0 ⟨152, 32, 152, 36⟩)) (pos := ⟨152, 20, 152, 36⟩))) [] ({ kind := PySem.ScopeKind.function, names := [(PySem.Str.ofString ".0", PySem.NameKind.local), (PySem.Str.ofString "run", PySem.NameKind.local)], isGenerator := false, isCoroutine := false, more := [] : PySem.Scope }) ⟨152, 19, 152, 53⟩ (XG.name 0 "run" .local (by rfl) (by decide) ⟨152, 41, 152, 44⟩) (XE.loc 0 ⟨152, 48, 152, 52⟩ "runs" .local (by rfl)) Option.none (XCB.emit (XE.bin .Add (XE.bin .Mult (XE.str " " 0 ⟨152, 20, 152, 23⟩) (XE.loc 0 ⟨152, 26, 152, 29⟩ "run" .local (by rfl)) ⟨152, 20, 152, 29⟩) (XE.str "\t" 0 ⟨152, 32, 152, 36⟩) ⟨152, 20, 152, 36⟩)) (CompOK.of (by decide +kernel)) (fun _ _ _ => by rfl) (fun _ _ => rfl) (fun _ _ => rfl)), rfl⟩] ⟨152, 11, 152, 18⟩ ⟨152, 11, 152, 54⟩ (fun _ => rfl) (Nat.le_of_ble_eq_true rfl) (by rfl)) (XE.bin .Mult (XE.str " " 0 ⟨152, 57, 152, 60⟩) (XE.loc 1 ⟨152, 63, 152, 69⟩ "behind" .local (by rfl)) ⟨152, 57, 152, 69⟩) ⟨152, 11, 152, 69⟩) (XE.str "x\t " 0 ⟨152, 72, 152, 78⟩) ⟨152, 11, 152, 78⟩) ⟨152, 4, 152, 78⟩)
  XS.nil)
theorem d_law_line (w : World) : DefOK (u0 w) 211 nm_law_line (b_law_line w).ss := ⟨by kernel_rfl, by kernel_rfl, by kernel_rfl, by kernel_rfl, by kernel_rfl, by kernel_rfl, by kernel_rfl, by kernel_rfl, by kernel_rfl, by kernel_rfl⟩
theorem e_law_line (w : World) : ∀ vs : List Value, vs.length = 2 → bindArgs (fdOf (u0 w).K 211) ⟨vs, []⟩ = pure ((nm_law_line.slots.map (·.1)).zip vs) := fun vs e => by
  refine len2 (P := fun l => bindArgs _ ⟨l, []⟩ = pure (List.zip _ l)) (fun a0 a1 => ?_) vs e
  kernel_rfl
noncomputable def c_law_line (w : World) : Co (u0 w) 1 (.ref 211) := Co.ofDef0 2 (b_law_line w) (d_law_line w) (by decide) (e_law_line w)
noncomputable def fldOf (K : Frag) (a : Addr) (i : Nat) : Value := match K.lookup a with
  | some ⟨_, _, .fields vs, _⟩ => vs.getD i .none
  | _ => .none
noncomputable def itemsOf (K : Frag) (a : Addr) : Array Value := match K.lookup a with
  | some ⟨_, _, .seq vs _, _⟩ => vs
  | _ => #[]
noncomputable def itemsN (K : Frag) (a : Addr) : Nat := match K.lookup a with
  | some ⟨_, _, .seq _ n, _⟩ => n
  | _ => 0
noncomputable def entsOf (K : Frag) (a : Addr) : Array DictEntry := match K.lookup a with
  | some ⟨_, _, .dict es _, _⟩ => es
  | _ => #[]
noncomputable def entsN (K : Frag) (a : Addr) : Nat := match K.lookup a with
  | some ⟨_, _, .dict _ n, _⟩ => n
  | _ => 0
noncomputable def strTok : Value → Tok
  | .str _ t => t
  | _ => 0
noncomputable def cfTok : Option CFound → Tok
  | some (.val (.str _ t)) => t
  | _ => 0
theorem tz_pat (w : World) : (u0 w).K.lookup 44 = some ⟨.type "re.Pattern", none, .fields #[fldOf (u0 w).K 44 0, fldOf (u0 w).K 44 1, .int 3 0, .none, .none, .ref 43, .int 0 0], #[]⟩ := by kernel_rfl
theorem tz_code (w : World) : (u0 w).K.lookup 43 = some ⟨.type "tuple", none, .seq (itemsOf (u0 w).K 43) (itemsN (u0 w).K 43), #[]⟩ := by kernel_rfl
noncomputable def tzCode : Array Nat := #[14, 4, 0, 1, 6, 6, 0, 23, 14, 0, 1, 17, 0, 13, 6, 16, 45, 16, 43, 0, 17, 1, 18, 17, 2, 13, 4, 8, 0, 0, 24, 9, 0, 1, 13, 4, 8, 0, 0, 1, 17, 3, 24, 6, 0, 1, 16, 58, 1, 23, 17, 0, 1, 17, 4, 13, 4, 8, 0, 0, 13, 4, 8, 0, 0, 17, 5, 18, 6, 5, 1]
theorem tz_lit (w : World) : ((itemsOf (u0 w).K 43).map PySem.Builtin.Re.reRawOf).map (·.toNat) = tzCode := by kernel_rfl
theorem tz_dict (w : World) : (u0 w).K.lookup 39 = some ⟨.type "dict", none, .dict (entsOf (u0 w).K 39) (entsN (u0 w).K 39), #[]⟩ := by kernel_rfl
theorem tz_ks (w : World) : (entsOf (u0 w).K 39).toList.map keyText = (["GMT", "UTC", "UT", "Z"] : List Str) := by kernel_rfl
noncomputable def entTok (es : Array DictEntry) (i : Nat) : Tok := match es[i]? with
  | some e => strTok e.key
  | none => 0
theorem tz_es (w : World) : (entsOf (u0 w).K 39).toList = [⟨PyData.keyHash w.params "GMT", .str "GMT" (entTok (entsOf (u0 w).K 39) 0), .none⟩, ⟨PyData.keyHash w.params "UTC", .str "UTC" (entTok (entsOf (u0 w).K 39) 1), .none⟩, ⟨PyData.keyHash w.params "UT", .str "UT" (entTok (entsOf (u0 w).K 39) 2), .none⟩, ⟨PyData.keyHash w.params "Z", .str "Z" (entTok (entsOf (u0 w).K 39) 3), .none⟩] := by kernel_rfl
theorem tz_keys (w : World) : KeysLit (u0 w).w.params (entsOf (u0 w).K 39).toList := by
  rw [tz_es]
  exact ⟨⟨_, _, rfl, rfl⟩, ⟨_, _, rfl, rfl⟩, ⟨_, _, rfl, rfl⟩, ⟨_, _, rfl, rfl⟩, trivial⟩
theorem fc_S (w : World) : findCls (u0 w).K (.ref 181) (.type "type") "S" = some (.val (.str " " (cfTok (findCls (u0 w).K (.ref 181) (.type "type") "S")))) := by kernel_rfl
theorem fc_T (w : World) : findCls (u0 w).K (.ref 181) (.type "type") "T" = some (.val (.str "\t" (cfTok (findCls (u0 w).K (.ref 181) (.type "type") "T")))) := by kernel_rfl
theorem sw2 {x y : Str} {p1 p2 tp p3 pa pb : Pos} {k j : Nat} {va vb : PySem.Expr} {na nb : Str} (hne : (y == x) = false) (hl : (p2.line == p1.line) = true) :
    ∀ env : Env, env.blockKind = .function → env.kindOf x = some .local → env.kindOf y = some .local → swappedStores [.Tuple [.Name x p1, .Name y p2] k tp] (.Tuple [.Attribute va na pa, .Attribute vb nb pb] j p3) env = pure (some [x, y]) := by
  intro env hb hx hy
  have hll : p2.line = p1.line := beq_iff_eq.mp hl
  have e : ([Expr.Name x p1, Expr.Name y p2].filterMap fun | .Name id pos => if env.kindOf id == some .local && pos.line == p1.line then some id else none | _ => none) = [x, y] := by
    rw [List.filterMap_cons_some (b := x), List.filterMap_cons_some (b := y)]
    · rfl
    · show (if (env.kindOf y == some .local && p2.line == p1.line) = true then some y else none) = _
      rw [hy, hl]; rfl
    · show (if (env.kindOf x == some .local && p1.line == p1.line) = true then some x else none) = _
      rw [hx, beq_self_eq_true p1.line]; rfl
  have e2 : ([x, y].eraseDups.length != [x, y].length) = false := by
    rw [List.eraseDups_cons]
    simp [List.filter, hne, List.eraseDups_cons]
  unfold swappedStores
  rw [hb]
  refine Eq.trans (b := (have names := [Expr.Name x p1, Expr.Name y p2].filterMap (fun | .Name id pos => if env.kindOf id == some .local && pos.line == p1.line then some id else none | _ => none); if names.length != 2 || names.eraseDups.length != names.length then pure none else pure (some names))) (by rfl) ?_
  dsimp only
  rw [e, e2]
  rfl
noncomputable def nm_offset_from_tz_string : Nm := ⟨[("tz", .local), ("offset", .local), ("m", .local)], ["UTC_ZONES", "TIMEZONE_RE", "int"]⟩
noncomputable def b_offset_from_tz_string (w : World) : XS (u0 w) 0 nm_offset_from_tz_string :=
  (XS.cons
  (X1.assign 1 "offset" .local (by rfl) (by decide) (XE.none 0 ⟨9, 13, 9, 17⟩) ⟨9, 4, 9, 10⟩ ⟨9, 4, 9, 17⟩ (fun _ => rfl))
  (XS.cons
  (X1.ite (XT.inD (XE.loc 0 ⟨10, 7, 10, 9⟩ "tz" .local (by rfl)) "UTC_ZONES" 39 ⟨10, 13, 10, 22⟩ ⟨10, 7, 10, 22⟩ (by rfl) (by decide +kernel) (by rfl) (tz_dict w) (tz_keys w) (by rfl) ["GMT", "UTC", "UT", "Z"] (tz_ks w) (by rfl)) (XS.cons
   (X1.assign 1 "offset" .local (by rfl) (by decide) (XE.int 0 0 ⟨11, 17, 11, 18⟩) ⟨11, 8, 11, 14⟩ ⟨11, 8, 11, 18⟩ (fun _ => rfl))
   XS.nil) (XS.cons
   (X1.assign 2 "m" .local (by rfl) (by decide) (XE.search "TIMEZONE_RE" 44 43 ⟨(XE.loc 0 ⟨13, 31, 13, 33⟩ "tz" .local (by rfl)), rfl⟩ ⟨13, 12, 13, 23⟩ ⟨13, 12, 13, 30⟩ ⟨13, 12, 13, 34⟩ (by rfl) (by decide +kernel) (by rfl) (tz_pat w) (tz_code w) tzCode 3 (tz_lit w) (by rfl) (by rfl) (fun _ => rfl)) ⟨13, 8, 13, 9⟩ ⟨13, 8, 13, 34⟩ (fun _ => rfl))
   (XS.cons
   (X1.ite (XT.mval (XE.loc 2 ⟨14, 11, 14, 12⟩ "m" .local (by rfl)) (fun _ _ => rfl)) (XS.cons
    (X1.assign 1 "offset" .local (by rfl) (by decide) (XE.bin .Mult (XE.int 3600 0 ⟨15, 21, 15, 25⟩) (XE.callB "int" (.type "int") (intC _ _) [⟨(XE.group (XE.loc 2 ⟨15, 32, 15, 33⟩ "m" .local (by rfl)) ⟨(XE.int 2 0 ⟨15, 40, 15, 41⟩), rfl⟩ ⟨15, 32, 15, 39⟩ ⟨15, 32, 15, 42⟩ (by rfl) (fun _ => rfl)), rfl⟩] ⟨15, 28, 15, 31⟩ ⟨15, 28, 15, 43⟩ (by rfl) Keepable.ty (by decide +kernel) (by rfl)) ⟨15, 21, 15, 43⟩) ⟨15, 12, 15, 18⟩ ⟨15, 12, 15, 43⟩ (fun _ => rfl))
    (XS.cons
    (X1.ite (XT.val (XE.group (XE.loc 2 ⟨16, 15, 16, 16⟩ "m" .local (by rfl)) ⟨(XE.int 3 0 ⟨16, 23, 16, 24⟩), rfl⟩ ⟨16, 15, 16, 22⟩ ⟨16, 15, 16, 25⟩ (by rfl) (fun _ => rfl)) (fun _ _ => rfl)) (XS.cons
     (X1.assign 1 "offset" .local (by rfl) (by decide) (XE.bin .Add (XE.loc 1 ⟨17, 25, 17, 31⟩ "offset" .local (by rfl)) (XE.bin .Mult (XE.int 60 0 ⟨17, 34, 17, 36⟩) (XE.callB "int" (.type "int") (intC _ _) [⟨(XE.group (XE.loc 2 ⟨17, 43, 17, 44⟩ "m" .local (by rfl)) ⟨(XE.int 3 0 ⟨17, 51, 17, 52⟩), rfl⟩ ⟨17, 43, 17, 50⟩ ⟨17, 43, 17, 53⟩ (by rfl) (fun _ => rfl)), rfl⟩] ⟨17, 39, 17, 42⟩ ⟨17, 39, 17, 54⟩ (by rfl) Keepable.ty (by decide +kernel) (by rfl)) ⟨17, 34, 17, 54⟩) ⟨17, 25, 17, 54⟩) ⟨17, 16, 17, 22⟩ ⟨17, 16, 17, 54⟩ (fun _ => rfl))
     XS.nil) XS.nil ⟨16, 12, 17, 54⟩)
    (XS.cons
    (X1.ite (XT.cmp .Eq (XE.group (XE.loc 2 ⟨18, 15, 18, 16⟩ "m" .local (by rfl)) ⟨(XE.int 1 0 ⟨18, 23, 18, 24⟩), rfl⟩ ⟨18, 15, 18, 22⟩ ⟨18, 15, 18, 25⟩ (by rfl) (fun _ => rfl)) (XE.str "-" 0 ⟨18, 29, 18, 32⟩) ⟨18, 15, 18, 32⟩ (by rfl)) (XS.cons
     (X1.assign 1 "offset" .local (by rfl) (by decide) (XE.neg (XE.loc 1 ⟨19, 26, 19, 32⟩ "offset" .local (by rfl)) ⟨19, 25, 19, 32⟩) ⟨19, 16, 19, 22⟩ ⟨19, 16, 19, 32⟩ (fun _ => rfl))
     XS.nil) XS.nil ⟨18, 12, 19, 32⟩)
    XS.nil))) XS.nil ⟨14, 8, 19, 32⟩)
   XS.nil)) ⟨10, 4, 19, 32⟩)
  (XS.cons
  (X1.ret (XE.loc 1 ⟨20, 11, 20, 17⟩ "offset" .local (by rfl)) ⟨20, 4, 20, 17⟩)
  XS.nil)))
theorem d_offset_from_tz_string (w : World) : DefOK (u0 w) 51 nm_offset_from_tz_string (b_offset_from_tz_string w).ss := ⟨by kernel_rfl, by kernel_rfl, by kernel_rfl, by kernel_rfl, by kernel_rfl, by kernel_rfl, by kernel_rfl, by kernel_rfl, by kernel_rfl, by kernel_rfl⟩
theorem e_offset_from_tz_string (w : World) : ∀ vs : List Value, vs.length = 1 → bindArgs (fdOf (u0 w).K 51) ⟨vs, []⟩ = pure ((nm_offset_from_tz_string.slots.map (·.1)).zip vs) := fun vs e => by
  refine len1 (P := fun l => bindArgs _ ⟨l, []⟩ = pure (List.zip _ l)) (fun a0 => ?_) vs e
  kernel_rfl
noncomputable def c_offset_from_tz_string (w : World) : Co (u0 w) 1 (.ref 51) := Co.ofDef0 1 (b_offset_from_tz_string w) (d_offset_from_tz_string w) (by decide) (e_offset_from_tz_string w)
noncomputable def nm_Whitespace__init : Nm := ⟨[("self", .local), ("ws", .local), ("S", .local), ("T", .local), ("count", .local), ("b", .local), ("n", .local), ("nt", .local), ("ch", .local)], ["Whitespace", "len", "tuple"]⟩
noncomputable def b_Whitespace__init (w : World) : XS (u0 w) 0 nm_Whitespace__init :=
  (XS.cons
  (X1.assignT (XG.selfAttr 0 "self" .local (by rfl) 181 "raw" ⟨86, 8, 86, 12⟩ ⟨86, 8, 86, 16⟩ (ws_ok w) (by kernel_rfl)) (XE.loc 1 ⟨86, 19, 86, 21⟩ "ws" .local (by rfl)) ⟨86, 8, 86, 21⟩ (by rfl) (fun _ => rfl) (fun _ => rfl))
  (XS.cons
  (X1.swap2 2 3 "S" "T" (by rfl) (by rfl) ⟨87, 8, 87, 9⟩ ⟨87, 11, 87, 12⟩ ⟨87, 8, 87, 12⟩ 0 (XE.tup [⟨(XE.clsAttr 181 "Whitespace" ⟨87, 16, 87, 26⟩ (by rfl) (by decide +kernel) (by rfl) "S" ⟨87, 16, 87, 28⟩ (mc := .type "type") (by kernel_rfl) (fc_S w)), rfl⟩, ⟨(XE.clsAttr 181 "Whitespace" ⟨87, 30, 87, 40⟩ (by rfl) (by decide +kernel) (by rfl) "T" ⟨87, 30, 87, 42⟩ (mc := .type "type") (by kernel_rfl) (fc_T w)), rfl⟩] 0 ⟨87, 15, 87, 43⟩ (Nat.le_of_ble_eq_true rfl)) ⟨87, 8, 87, 43⟩ (fun _ => rfl) (sw2 (by decide +kernel) (by rfl)))
  (XS.cons
  (X1.assignOwn 4 "count" .local (by rfl) (by decide) [] (Nat.le_of_ble_eq_true rfl) ⟨88, 16, 88, 18⟩ ⟨88, 8, 88, 13⟩ ⟨88, 8, 88, 18⟩)
  (XS.cons
  (X1.assign3 (XG.name 5 "b" .local (by rfl) (by decide) ⟨89, 8, 89, 9⟩) (XG.name 6 "n" .local (by rfl) (by decide) ⟨89, 12, 89, 13⟩) (XG.name 7 "nt" .local (by rfl) (by decide) ⟨89, 16, 89, 18⟩) (XE.int 0 0 ⟨89, 21, 89, 22⟩) ⟨89, 8, 89, 22⟩ (fun _ => rfl) (fun _ => rfl))
  (XS.cons
  (X1.for_ (XG.name 8 "ch" .local (by rfl) (by decide) ⟨90, 12, 90, 14⟩) (fun _ _ => rfl) (XE.selfAttr 0 "self" .local (by rfl) 181 "raw" ⟨90, 18, 90, 22⟩ ⟨90, 18, 90, 26⟩ (ws_ok w) (at_ := Option.none) (by kernel_rfl) (by kernel_rfl)) (XS.cons
   (X1.ite (XT.cmp .Eq (XE.loc 8 ⟨91, 15, 91, 17⟩ "ch" .local (by rfl)) (XE.loc 2 ⟨91, 21, 91, 22⟩ "S" .local (by rfl)) ⟨91, 15, 91, 22⟩ (by rfl)) (XS.cons
    (X1.assign 6 "n" .local (by rfl) (by decide) (XE.bin .Add (XE.loc 6 ⟨92, 20, 92, 21⟩ "n" .local (by rfl)) (XE.int 1 0 ⟨92, 24, 92, 25⟩) ⟨92, 20, 92, 25⟩) ⟨92, 16, 92, 17⟩ ⟨92, 16, 92, 25⟩ (fun _ => rfl))
    (XS.cons
    (X1.assign 5 "b" .local (by rfl) (by decide) (XE.bin .Add (XE.loc 5 ⟨93, 20, 93, 21⟩ "b" .local (by rfl)) (XE.int 1 0 ⟨93, 24, 93, 25⟩) ⟨93, 20, 93, 25⟩) ⟨93, 16, 93, 17⟩ ⟨93, 16, 93, 25⟩ (fun _ => rfl))
    XS.nil)) (XS.cons
    (X1.ite (XT.cmp .Eq (XE.loc 8 ⟨94, 17, 94, 19⟩ "ch" .local (by rfl)) (XE.loc 3 ⟨94, 23, 94, 24⟩ "T" .local (by rfl)) ⟨94, 17, 94, 24⟩ (by rfl)) (XS.cons
     (X1.assign 6 "n" .local (by rfl) (by decide) (XE.bin .Add (XE.loc 6 ⟨95, 20, 95, 21⟩ "n" .local (by rfl)) (XE.int 1 0 ⟨95, 24, 95, 25⟩) ⟨95, 20, 95, 25⟩) ⟨95, 16, 95, 17⟩ ⟨95, 16, 95, 25⟩ (fun _ => rfl))
     (XS.cons
     (X1.assign 7 "nt" .local (by rfl) (by decide) (XE.bin .Add (XE.loc 7 ⟨96, 21, 96, 23⟩ "nt" .local (by rfl)) (XE.int 1 0 ⟨96, 26, 96, 27⟩) ⟨96, 21, 96, 27⟩) ⟨96, 16, 96, 18⟩ ⟨96, 16, 96, 27⟩ (fun _ => rfl))
     (XS.cons
     (X1.ite (XT.cmp .GtE (XE.loc 5 ⟨97, 19, 97, 20⟩ "b" .local (by rfl)) (XE.callB "len" (.builtin "len") lenC [⟨(XE.loc 4 ⟨97, 28, 97, 33⟩ "count" .local (by rfl)), rfl⟩] ⟨97, 24, 97, 27⟩ ⟨97, 24, 97, 34⟩ (by rfl) Keepable.bi (by decide +kernel) (by rfl)) ⟨97, 19, 97, 34⟩ (by rfl)) (XS.cons
      (X1.assignCat 4 "count" .local (by rfl) (by decide) (XE.loc 4 ⟨98, 28, 98, 33⟩ "count" .local (by rfl)) (XE.rep ⟨(XE.int 0 0 ⟨98, 37, 98, 38⟩), rfl⟩ (XE.bin .Add (XE.bin .Sub (XE.loc 5 ⟨98, 43, 98, 44⟩ "b" .local (by rfl)) (XE.callB "len" (.builtin "len") lenC [⟨(XE.loc 4 ⟨98, 51, 98, 56⟩ "count" .local (by rfl)), rfl⟩] ⟨98, 47, 98, 50⟩ ⟨98, 47, 98, 57⟩ (by rfl) Keepable.bi (by decide +kernel) (by rfl)) ⟨98, 43, 98, 57⟩) (XE.int 1 0 ⟨98, 60, 98, 61⟩) ⟨98, 43, 98, 61⟩) ⟨98, 36, 98, 39⟩ ⟨98, 36, 98, 62⟩) ⟨98, 28, 98, 62⟩ ⟨98, 20, 98, 25⟩ ⟨98, 20, 98, 62⟩)
      XS.nil) XS.nil ⟨97, 16, 98, 62⟩)
     (XS.cons
     (X1.setItem 4 "count" .local (by rfl) (XE.bin .Add (XE.idx (XE.loc 4 ⟨99, 27, 99, 32⟩ "count" .local (by rfl)) (XE.loc 5 ⟨99, 33, 99, 34⟩ "b" .local (by rfl)) ⟨99, 27, 99, 35⟩) (XE.int 1 0 ⟨99, 38, 99, 39⟩) ⟨99, 27, 99, 39⟩) (XE.loc 5 ⟨99, 22, 99, 23⟩ "b" .local (by rfl)) ⟨99, 16, 99, 21⟩ ⟨99, 16, 99, 24⟩ ⟨99, 16, 99, 39⟩ (fun _ => rfl))
     (XS.cons
     (X1.assign 5 "b" .local (by rfl) (by decide) (XE.int 0 0 ⟨100, 20, 100, 21⟩) ⟨100, 16, 100, 17⟩ ⟨100, 16, 100, 21⟩ (fun _ => rfl))
     XS.nil))))) (XS.cons
     (X1.brk ⟨102, 16, 102, 21⟩)
     XS.nil) ⟨94, 12, 102, 21⟩)
    XS.nil) ⟨91, 12, 102, 21⟩)
   XS.nil) ⟨90, 8, 102, 21⟩ (fun _ _ => rfl))
  (XS.cons
  (X1.assignT (XG.selfAttr 0 "self" .local (by rfl) 181 "n" ⟨103, 8, 103, 12⟩ ⟨103, 8, 103, 14⟩ (ws_ok w) (by kernel_rfl)) (XE.loc 6 ⟨103, 17, 103, 18⟩ "n" .local (by rfl)) ⟨103, 8, 103, 18⟩ (by rfl) (fun _ => rfl) (fun _ => rfl))
  (XS.cons
  (X1.assignT (XG.selfAttr 0 "self" .local (by rfl) 181 "nt" ⟨104, 8, 104, 12⟩ ⟨104, 8, 104, 15⟩ (ws_ok w) (by kernel_rfl)) (XE.loc 7 ⟨104, 18, 104, 20⟩ "nt" .local (by rfl)) ⟨104, 8, 104, 20⟩ (by rfl) (fun _ => rfl) (fun _ => rfl))
  (XS.cons
  (X1.assignT (XG.selfAttr 0 "self" .local (by rfl) 181 "norm" ⟨105, 8, 105, 12⟩ ⟨105, 8, 105, 17⟩ (ws_ok w) (by kernel_rfl)) (XE.tup [⟨(XE.tupleOwn 4 "count" .local (by rfl) ⟨105, 27, 105, 32⟩ ⟨105, 21, 105, 26⟩ ⟨105, 21, 105, 33⟩ (by rfl) (by decide +kernel)), rfl⟩, ⟨(XE.loc 5 ⟨105, 35, 105, 36⟩ "b" .local (by rfl)), rfl⟩] 0 ⟨105, 20, 105, 37⟩ (Nat.le_of_ble_eq_true rfl)) ⟨105, 8, 105, 37⟩ (by rfl) (fun _ => rfl) (fun _ => rfl))
  (XS.cons
  (X1.assignT (XG.selfAttr 0 "self" .local (by rfl) 181 "is_simple" ⟨106, 8, 106, 12⟩ ⟨106, 8, 106, 22⟩ (ws_ok w) (by kernel_rfl)) (XE.cmp .LtE (XE.callB "len" (.builtin "len") lenC [⟨(XE.loc 4 ⟨106, 29, 106, 34⟩ "count" .local (by rfl)), rfl⟩] ⟨106, 25, 106, 28⟩ ⟨106, 25, 106, 35⟩ (by rfl) Keepable.bi (by decide +kernel) (by rfl)) (XE.int 1 0 ⟨106, 39, 106, 40⟩) ⟨106, 25, 106, 40⟩ (by rfl)) ⟨106, 8, 106, 40⟩ (by rfl) (fun _ => rfl) (fun _ => rfl))
  XS.nil)))))))))
theorem d_Whitespace__init (w : World) : DefOK (u0 w) 136 nm_Whitespace__init (b_Whitespace__init w).ss := ⟨by kernel_rfl, by kernel_rfl, by kernel_rfl, by kernel_rfl, by kernel_rfl, by kernel_rfl, by kernel_rfl, by kernel_rfl, by kernel_rfl, by kernel_rfl⟩
theorem e_Whitespace__init (w : World) : ∀ vs : List Value, vs.length = 2 → bindArgs (fdOf (u0 w).K 136) ⟨vs, []⟩ = pure ((nm_Whitespace__init.slots.map (·.1)).zip vs) := fun vs e => by
  refine len2 (P := fun l => bindArgs _ ⟨l, []⟩ = pure (List.zip _ l)) (fun a0 a1 => ?_) vs e
  kernel_rfl
noncomputable def c_Whitespace (w : World) : Co (u0 w) 2 (.ref 181) := Co.ofCls 1 (b_Whitespace__init w) (d_Whitespace__init w) (by kernel_rfl) (by kernel_rfl) (by kernel_rfl) (by decide) (e_Whitespace__init w)
noncomputable abbrev bisP (p1 p2 p3 p4 p5 : Pos) (kd : List (Option PySem.Expr)) (df : List PySem.Expr) : Arguments := { posonlyargs := [], args := [{ arg := "a", annotation := none, pos := p1 }, { arg := "x", annotation := none, pos := p2 }, { arg := "lo", annotation := none, pos := p3 }, { arg := "hi", annotation := none, pos := p4 }], vararg := none, kwonlyargs := [{ arg := "key", annotation := none, pos := p5 }], kw_defaults := kd, kwarg := none, defaults := df }
theorem wp_neg {M : Model} {A : Around} {α : Type} {c : Prop} [Decidable c] {t e : Sem α} {Q : α → Shared → Prop} {E : Value → Shared → Prop} {s : Shared} (h : ¬ c) (k : wpAny M A e Q E s) : wpAny M A (if c then t else e) Q E s := by rw [if_neg h]; exact k
theorem wp_pos {M : Model} {A : Around} {α : Type} {c : Prop} [Decidable c] {t e : Sem α} {Q : α → Shared → Prop} {E : Value → Shared → Prop} {s : Shared} (h : c) (k : wpAny M A t Q E s) : wpAny M A (if c then t else e) Q E s := by rw [if_pos h]; exact k
theorem wp_for_nil {M : Model} {A : Around} {α β : Type} {b : β} {f : α → β → Sem (ForInStep β)} {Q : β → Shared → Prop} {E : Value → Shared → Prop} {s : Shared} (k : wpAny M A (pure b) Q E s) : wpAny M A (forIn ([] : List α) b f) Q E s := by rw [List.forIn_nil]; exact k
theorem wp_for_cons {M : Model} {A : Around} {α β : Type} {a : α} {l : List α} {b : β} {f : α → β → Sem (ForInStep β)} {Q : β → Shared → Prop} {E : Value → Shared → Prop} {s : Shared} (k : wpAny M A (f a b >>= fun r => match r with | .done b => pure b | .yield b => forIn l b f) Q E s) : wpAny M A (forIn (a :: l) b f) Q E s := by rw [List.forIn_cons]; exact k
section
variable {s : Shared} {nm qn : Str} {body : FuncBody} {scope : Scope} {g : Addr} {cl : List (Str × Addr)} {doc pm code ct : Value} {an : Option Addr} {bi : Addr} {p1 p2 p3 p4 p5 : Pos} {kd : List (Option PySem.Expr)} {df : List PySem.Expr} {T KD : Addr} {d0 d1 dk v0 v1 v2 v3 : Value} {oT : Obj} {nT : Nat} {m : Str → Option Value}
theorem bind2 (hT : s.heap.get? T = some oT) (hTd : oT.data = .seq #[d0, d1] nT) (hN : s.heap.Ns KD m) (hm : m "key" = some dk) :
    BindsTo s ⟨nm, qn, bisP p1 p2 p3 p4 p5 kd df, body, scope, g, cl, .ref T, .ref KD, doc, pm, an, code, ct, bi⟩ ⟨[v0, v1], []⟩ [("a", v0), ("x", v1), ("lo", d0), ("hi", d1), ("key", dk)] := by
  intro M A E Q hq
  unfold bindArgs
  simp only [List.map_cons, List.map_nil, List.nil_append, List.forIn_nil]
  refine wpAny_bind (wpAny_pure ?_)
  refine wpAny_bind (wpAny_seqItems hT hTd ?_)
  refine wp_neg (by simp) ?_
  refine wp_neg (by simp) ?_
  refine wpAny_bind (wpAny_of_eq (a := [(("a" : Str), v0), (("x" : Str), v1), (("lo" : Str), d0), (("hi" : Str), d1)]) (by rfl) ?_)
  refine wpAny_bind (wp_for_cons (wpAny_bind ?_))
  refine wp_pos (by rfl) ?_
  refine wpAny_bind (wpAny_nsGet hN ?_)
  rw [hm]
  refine wpAny_pure ?_
  dsimp only
  refine wp_for_nil ?_
  refine wpAny_pure ?_
  refine wp_neg (by simp) ?_
  exact wpAny_of_eq (a := [(("a" : Str), v0), (("x" : Str), v1), (("lo" : Str), d0), (("hi" : Str), d1), (("key" : Str), dk)]) (by rfl) hq
theorem bind4 (hT : s.heap.get? T = some oT) (hTd : oT.data = .seq #[d0, d1] nT) (hN : s.heap.Ns KD m) (hm : m "key" = some dk) :
    BindsTo s ⟨nm, qn, bisP p1 p2 p3 p4 p5 kd df, body, scope, g, cl, .ref T, .ref KD, doc, pm, an, code, ct, bi⟩ ⟨[v0, v1, v2, v3], []⟩ [("a", v0), ("x", v1), ("lo", v2), ("hi", v3), ("key", dk)] := by
  intro M A E Q hq
  unfold bindArgs
  simp only [List.map_cons, List.map_nil, List.nil_append, List.forIn_nil]
  refine wpAny_bind (wpAny_pure ?_)
  refine wpAny_bind (wpAny_seqItems hT hTd ?_)
  refine wp_neg (by simp) ?_
  refine wp_neg (by simp) ?_
  refine wpAny_bind (wpAny_of_eq (a := [(("a" : Str), v0), (("x" : Str), v1), (("lo" : Str), v2), (("hi" : Str), v3)]) (by rfl) ?_)
  refine wpAny_bind (wp_for_cons (wpAny_bind ?_))
  refine wp_pos (by rfl) ?_
  refine wpAny_bind (wpAny_nsGet hN ?_)
  rw [hm]
  refine wpAny_pure ?_
  dsimp only
  refine wp_for_nil ?_
  refine wpAny_pure ?_
  refine wp_neg (by simp) ?_
  exact wpAny_of_eq (a := [(("a" : Str), v0), (("x" : Str), v1), (("lo" : Str), v2), (("hi" : Str), v3), (("key" : Str), dk)]) (by rfl) hq
end
noncomputable def nm_bisect_right : Nm := ⟨[("a", .local), ("x", .local), ("lo", .local), ("hi", .local), ("key", .local), ("mid", .local)], ["ValueError", "len"]⟩
noncomputable def b_bisect_right (w : World) : XS (u0 w) 0 nm_bisect_right :=
  (XS.cons
  (X1.ite (XT.cmp .Lt (XE.loc 2 ⟨29, 7, 29, 9⟩ "lo" .local (by rfl)) (XE.int 0 0 ⟨29, 12, 29, 13⟩) ⟨29, 7, 29, 13⟩ (by rfl)) (XS.cons (X1.opq ((PySem.Stmt.Raise (exc := (some (PySem.Expr.Call (func := (PySem.Expr.Name "ValueError" ⟨30, 14, 30, 24⟩)) (args := [(PySem.Expr.Constant (PySem.Const.str "lo must be non-negative") 0 ⟨30, 25, 30, 50⟩)]) (keywords := []) (pos := ⟨30, 14, 30, 51⟩)))) (cause := none) (pos := ⟨30, 8, 30, 51⟩)))) XS.nil) XS.nil ⟨29, 4, 30, 51⟩)
  (XS.cons
  (X1.ite (XT.cmp .Is (XE.loc 3 ⟨31, 7, 31, 9⟩ "hi" .local (by rfl)) (XE.none 0 ⟨31, 13, 31, 17⟩) ⟨31, 7, 31, 17⟩ (by rfl)) (XS.cons
   (X1.assign 3 "hi" .local (by rfl) (by decide) (XE.callB "len" (.builtin "len") lenC [⟨(XE.loc 0 ⟨32, 17, 32, 18⟩ "a" .local (by rfl)), rfl⟩] ⟨32, 13, 32, 16⟩ ⟨32, 13, 32, 19⟩ (by rfl) Keepable.bi (by decide +kernel) (by rfl)) ⟨32, 8, 32, 10⟩ ⟨32, 8, 32, 19⟩ (fun _ => rfl))
   XS.nil) XS.nil ⟨31, 4, 32, 19⟩)
  (XS.cons
  (X1.ite (XT.cmp .Is (XE.loc 4 ⟨33, 7, 33, 10⟩ "key" .local (by rfl)) (XE.none 0 ⟨33, 14, 33, 18⟩) ⟨33, 7, 33, 18⟩ (by rfl)) (XS.cons
   (X1.while_ 64 (XT.cmp .Lt (XE.loc 2 ⟨34, 14, 34, 16⟩ "lo" .local (by rfl)) (XE.loc 3 ⟨34, 19, 34, 21⟩ "hi" .local (by rfl)) ⟨34, 14, 34, 21⟩ (by rfl)) (XS.cons
    (X1.assign 5 "mid" .local (by rfl) (by decide) (XE.bin .FloorDiv (XE.bin .Add (XE.loc 2 ⟨35, 19, 35, 21⟩ "lo" .local (by rfl)) (XE.loc 3 ⟨35, 24, 35, 26⟩ "hi" .local (by rfl)) ⟨35, 19, 35, 26⟩) (XE.int 2 0 ⟨35, 31, 35, 32⟩) ⟨35, 18, 35, 32⟩) ⟨35, 12, 35, 15⟩ ⟨35, 12, 35, 32⟩ (fun _ => rfl))
    (XS.cons
    (X1.ite (XT.cmp .Lt (XE.loc 1 ⟨36, 15, 36, 16⟩ "x" .local (by rfl)) (XE.idx (XE.loc 0 ⟨36, 19, 36, 20⟩ "a" .local (by rfl)) (XE.loc 5 ⟨36, 21, 36, 24⟩ "mid" .local (by rfl)) ⟨36, 19, 36, 25⟩) ⟨36, 15, 36, 25⟩ (by rfl)) (XS.cons
     (X1.assign 3 "hi" .local (by rfl) (by decide) (XE.loc 5 ⟨37, 21, 37, 24⟩ "mid" .local (by rfl)) ⟨37, 16, 37, 18⟩ ⟨37, 16, 37, 24⟩ (fun _ => rfl))
     XS.nil) (XS.cons
     (X1.assign 2 "lo" .local (by rfl) (by decide) (XE.bin .Add (XE.loc 5 ⟨39, 21, 39, 24⟩ "mid" .local (by rfl)) (XE.int 1 0 ⟨39, 27, 39, 28⟩) ⟨39, 21, 39, 28⟩) ⟨39, 16, 39, 18⟩ ⟨39, 16, 39, 28⟩ (fun _ => rfl))
     XS.nil) ⟨36, 12, 39, 28⟩)
    XS.nil)) ⟨34, 8, 39, 28⟩)
   XS.nil) (XS.cons (X1.opq ((PySem.Stmt.While (test := (PySem.Expr.Compare (left := (PySem.Expr.Name "lo" ⟨41, 14, 41, 16⟩)) (ops := [PySem.CmpOp.Lt]) (comparators := [(PySem.Expr.Name "hi" ⟨41, 19, 41, 21⟩)]) (pos := ⟨41, 14, 41, 21⟩))) (body := [ (PySem.Stmt.Assign (targets := [(PySem.Expr.Name "mid" ⟨42, 12, 42, 15⟩)]) (value := (PySem.Expr.BinOp (left := (PySem.Expr.BinOp (left := (PySem.Expr.Name "lo" ⟨42, 19, 42, 21⟩)) (op := PySem.Operator.Add) (right := (PySem.Expr.Name "hi" ⟨42, 24, 42, 26⟩)) (pos := ⟨42, 19, 42, 26⟩))) (op := PySem.Operator.FloorDiv) (right := (PySem.Expr.Constant (PySem.Const.int 2) 0 ⟨42, 31, 42, 32⟩)) (pos := ⟨42, 18, 42, 32⟩))) (pos := ⟨42, 12, 42, 32⟩)), (PySem.Stmt.If (test := (PySem.Expr.Compare (left := (PySem.Expr.Name "x" ⟨43, 15, 43, 16⟩)) (ops := [PySem.CmpOp.Lt]) (comparators := [ (PySem.Expr.Call (func := (PySem.Expr.Name "key" ⟨43, 19, 43, 22⟩)) (args := [ (PySem.Expr.Subscript (value := (PySem.Expr.Name "a" ⟨43, 23, 43, 24⟩)) (slice := (PySem.Expr.Name "mid" ⟨43, 25, 43, 28⟩)) (pos := ⟨43, 23, 43, 29⟩))]) (keywords := []) (pos := ⟨43, 19, 43, 30⟩))]) (pos := ⟨43, 15, 43, 30⟩))) (body := [ (PySem.Stmt.Assign (targets := [(PySem.Expr.Name "hi" ⟨44, 16, 44, 18⟩)]) (value := (PySem.Expr.Name "mid" ⟨44, 21, 44, 24⟩)) (pos := ⟨44, 16, 44, 24⟩))]) (orelse := [ (PySem.Stmt.Assign (targets := [(PySem.Expr.Name "lo" ⟨46, 16, 46, 18⟩)]) (value := (PySem.Expr.BinOp (left := (PySem.Expr.Name "mid" ⟨46, 21, 46, 24⟩)) (op := PySem.Operator.Add) (right := (PySem.Expr.Constant (PySem.Const.int 1) 0 ⟨46, 27, 46, 28⟩)) (pos := ⟨46, 21, 46, 28⟩))) (pos := ⟨46, 16, 46, 28⟩))]) (pos := ⟨43, 12, 46, 28⟩))]) (orelse := []) (pos := ⟨41, 8, 46, 28⟩)))) XS.nil) ⟨33, 4, 46, 28⟩)
  (XS.cons
  (X1.ret (XE.loc 2 ⟨47, 11, 47, 13⟩ "lo" .local (by rfl)) ⟨47, 4, 47, 13⟩)
  XS.nil))))
noncomputable def nm_bisect_left : Nm := ⟨[("a", .local), ("x", .local), ("lo", .local), ("hi", .local), ("key", .local), ("mid", .local)], ["ValueError", "len"]⟩
noncomputable def b_bisect_left (w : World) : XS (u0 w) 0 nm_bisect_left :=
  (XS.cons
  (X1.ite (XT.cmp .Lt (XE.loc 2 ⟨49, 7, 49, 9⟩ "lo" .local (by rfl)) (XE.int 0 0 ⟨49, 12, 49, 13⟩) ⟨49, 7, 49, 13⟩ (by rfl)) (XS.cons (X1.opq ((PySem.Stmt.Raise (exc := (some (PySem.Expr.Call (func := (PySem.Expr.Name "ValueError" ⟨50, 14, 50, 24⟩)) (args := [(PySem.Expr.Constant (PySem.Const.str "lo must be non-negative") 0 ⟨50, 25, 50, 50⟩)]) (keywords := []) (pos := ⟨50, 14, 50, 51⟩)))) (cause := none) (pos := ⟨50, 8, 50, 51⟩)))) XS.nil) XS.nil ⟨49, 4, 50, 51⟩)
  (XS.cons
  (X1.ite (XT.cmp .Is (XE.loc 3 ⟨51, 7, 51, 9⟩ "hi" .local (by rfl)) (XE.none 0 ⟨51, 13, 51, 17⟩) ⟨51, 7, 51, 17⟩ (by rfl)) (XS.cons
   (X1.assign 3 "hi" .local (by rfl) (by decide) (XE.callB "len" (.builtin "len") lenC [⟨(XE.loc 0 ⟨52, 17, 52, 18⟩ "a" .local (by rfl)), rfl⟩] ⟨52, 13, 52, 16⟩ ⟨52, 13, 52, 19⟩ (by rfl) Keepable.bi (by decide +kernel) (by rfl)) ⟨52, 8, 52, 10⟩ ⟨52, 8, 52, 19⟩ (fun _ => rfl))
   XS.nil) XS.nil ⟨51, 4, 52, 19⟩)
  (XS.cons
  (X1.ite (XT.cmp .Is (XE.loc 4 ⟨53, 7, 53, 10⟩ "key" .local (by rfl)) (XE.none 0 ⟨53, 14, 53, 18⟩) ⟨53, 7, 53, 18⟩ (by rfl)) (XS.cons
   (X1.while_ 64 (XT.cmp .Lt (XE.loc 2 ⟨54, 14, 54, 16⟩ "lo" .local (by rfl)) (XE.loc 3 ⟨54, 19, 54, 21⟩ "hi" .local (by rfl)) ⟨54, 14, 54, 21⟩ (by rfl)) (XS.cons
    (X1.assign 5 "mid" .local (by rfl) (by decide) (XE.bin .FloorDiv (XE.bin .Add (XE.loc 2 ⟨55, 19, 55, 21⟩ "lo" .local (by rfl)) (XE.loc 3 ⟨55, 24, 55, 26⟩ "hi" .local (by rfl)) ⟨55, 19, 55, 26⟩) (XE.int 2 0 ⟨55, 31, 55, 32⟩) ⟨55, 18, 55, 32⟩) ⟨55, 12, 55, 15⟩ ⟨55, 12, 55, 32⟩ (fun _ => rfl))
    (XS.cons
    (X1.ite (XT.cmp .Lt (XE.idx (XE.loc 0 ⟨56, 15, 56, 16⟩ "a" .local (by rfl)) (XE.loc 5 ⟨56, 17, 56, 20⟩ "mid" .local (by rfl)) ⟨56, 15, 56, 21⟩) (XE.loc 1 ⟨56, 24, 56, 25⟩ "x" .local (by rfl)) ⟨56, 15, 56, 25⟩ (by rfl)) (XS.cons
     (X1.assign 2 "lo" .local (by rfl) (by decide) (XE.bin .Add (XE.loc 5 ⟨57, 21, 57, 24⟩ "mid" .local (by rfl)) (XE.int 1 0 ⟨57, 27, 57, 28⟩) ⟨57, 21, 57, 28⟩) ⟨57, 16, 57, 18⟩ ⟨57, 16, 57, 28⟩ (fun _ => rfl))
     XS.nil) (XS.cons
     (X1.assign 3 "hi" .local (by rfl) (by decide) (XE.loc 5 ⟨59, 21, 59, 24⟩ "mid" .local (by rfl)) ⟨59, 16, 59, 18⟩ ⟨59, 16, 59, 24⟩ (fun _ => rfl))
     XS.nil) ⟨56, 12, 59, 24⟩)
    XS.nil)) ⟨54, 8, 59, 24⟩)
   XS.nil) (XS.cons (X1.opq ((PySem.Stmt.While (test := (PySem.Expr.Compare (left := (PySem.Expr.Name "lo" ⟨61, 14, 61, 16⟩)) (ops := [PySem.CmpOp.Lt]) (comparators := [(PySem.Expr.Name "hi" ⟨61, 19, 61, 21⟩)]) (pos := ⟨61, 14, 61, 21⟩))) (body := [ (PySem.Stmt.Assign (targets := [(PySem.Expr.Name "mid" ⟨62, 12, 62, 15⟩)]) (value := (PySem.Expr.BinOp (left := (PySem.Expr.BinOp (left := (PySem.Expr.Name "lo" ⟨62, 19, 62, 21⟩)) (op := PySem.Operator.Add) (right := (PySem.Expr.Name "hi" ⟨62, 24, 62, 26⟩)) (pos := ⟨62, 19, 62, 26⟩))) (op := PySem.Operator.FloorDiv) (right := (PySem.Expr.Constant (PySem.Const.int 2) 0 ⟨62, 31, 62, 32⟩)) (pos := ⟨62, 18, 62, 32⟩))) (pos := ⟨62, 12, 62, 32⟩)), (PySem.Stmt.If (test := (PySem.Expr.Compare (left := (PySem.Expr.Call (func := (PySem.Expr.Name "key" ⟨63, 15, 63, 18⟩)) (args := [ (PySem.Expr.Subscript (value := (PySem.Expr.Name "a" ⟨63, 19, 63, 20⟩)) (slice := (PySem.Expr.Name "mid" ⟨63, 21, 63, 24⟩)) (pos := ⟨63, 19, 63, 25⟩))]) (keywords := []) (pos := ⟨63, 15, 63, 26⟩))) (ops := [PySem.CmpOp.Lt]) (comparators := [(PySem.Expr.Name "x" ⟨63, 29, 63, 30⟩)]) (pos := ⟨63, 15, 63, 30⟩))) (body := [ (PySem.Stmt.Assign (targets := [(PySem.Expr.Name "lo" ⟨64, 16, 64, 18⟩)]) (value := (PySem.Expr.BinOp (left := (PySem.Expr.Name "mid" ⟨64, 21, 64, 24⟩)) (op := PySem.Operator.Add) (right := (PySem.Expr.Constant (PySem.Const.int 1) 0 ⟨64, 27, 64, 28⟩)) (pos := ⟨64, 21, 64, 28⟩))) (pos := ⟨64, 16, 64, 28⟩))]) (orelse := [ (PySem.Stmt.Assign (targets := [(PySem.Expr.Name "hi" ⟨66, 16, 66, 18⟩)]) (value := (PySem.Expr.Name "mid" ⟨66, 21, 66, 24⟩)) (pos := ⟨66, 16, 66, 24⟩))]) (pos := ⟨63, 12, 66, 24⟩))]) (orelse := []) (pos := ⟨61, 8, 66, 24⟩)))) XS.nil) ⟨53, 4, 66, 24⟩)
  (XS.cons
  (X1.ret (XE.loc 2 ⟨67, 11, 67, 13⟩ "lo" .local (by rfl)) ⟨67, 4, 67, 13⟩)
  XS.nil))))
noncomputable def posAt (F : FuncData) (i : Nat) : Pos := ((F.params.args[i]?).map (·.pos)).getD ⟨0, 0, 0, 0⟩
noncomputable def kposAt (F : FuncData) : Pos := ((F.params.kwonlyargs[0]?).map (·.pos)).getD ⟨0, 0, 0, 0⟩
noncomputable def bisF (F : FuncData) (T KD : Addr) : FuncData := ⟨F.name, F.qualname, bisP (posAt F 0) (posAt F 1) (posAt F 2) (posAt F 3) (kposAt F) F.params.kw_defaults F.params.defaults, F.body, F.scope, F.globals, F.closure, .ref T, .ref KD, F.doc, F.pyModule, F.annotations, F.code, F.closureTuple, F.builtins⟩
theorem fd60 (w : World) : fdOf (u0 w).K 60 = bisF (fdOf (u0 w).K 60) 52 53 := by kernel_rfl
theorem fd69 (w : World) : fdOf (u0 w).K 69 = bisF (fdOf (u0 w).K 69) 61 62 := by kernel_rfl
theorem fd78 (w : World) : fdOf (u0 w).K 78 = bisF (fdOf (u0 w).K 78) 70 71 := by kernel_rfl
noncomputable def tokAt (K : Frag) (a : Addr) : Tok := match ((itemsOf K a)[0]? : Option Value) with
  | some (.int _ t) => t
  | _ => 0
noncomputable def clsAt (K : Frag) (a : Addr) : Obj := match K.lookup a with
  | some o => o
  | none => default
structure KwOK (K : Frag) (T KD : Addr) : Prop where
  t : K.lookup T = some (clsAt K T)
  td : (clsAt K T).data = .seq #[.int 0 (tokAt K T), .none] (itemsN K T)
  k : K.lookup KD = some (clsAt K KD)
  kd : (clsAt K KD).data = .dict #[⟨((entsOf K KD)[0]?.map (·.hash)).getD 0, .str "key" (entTok (entsOf K KD) 0), .none⟩] (entsN K KD)
theorem kw60 (w : World) : KwOK (u0 w).K 52 53 := ⟨by kernel_rfl, by kernel_rfl, by kernel_rfl, by kernel_rfl⟩
theorem kw69 (w : World) : KwOK (u0 w).K 61 62 := ⟨by kernel_rfl, by kernel_rfl, by kernel_rfl, by kernel_rfl⟩
theorem kw78 (w : World) : KwOK (u0 w).K 70 71 := ⟨by kernel_rfl, by kernel_rfl, by kernel_rfl, by kernel_rfl⟩
noncomputable def kdEs (K : Frag) (KD : Addr) : Array DictEntry := #[⟨((entsOf K KD)[0]?.map (·.hash)).getD 0, .str "key" (entTok (entsOf K KD) 0), .none⟩]
theorem find_one (h : Int) (x : Str) (t : Tok) (v : Value) : nsFind #[⟨h, .str x t, v⟩] x = some v := by
  unfold nsFind findBy
  simp [Value.isStr]
theorem KwOK.ns {K : Frag} {T KD : Addr} (h : KwOK K T KD) {hp : Heap} (X : K.In hp) : ∃ m, hp.Ns KD m ∧ m "key" = some .none := by
  refine ⟨fun name => nsFind (kdEs K KD) name, ⟨clsAt K KD, kdEs K KD, entsN K KD, X _ _ h.k, h.kd, fun e m => ?_, fun _ => rfl⟩, find_one _ _ _ _⟩
  have : e = ⟨((entsOf K KD)[0]?.map (·.hash)).getD 0, .str "key" (entTok (entsOf K KD) 0), .none⟩ := by simpa [kdEs] using m
  exact ⟨_, _, by rw [this]⟩
theorem bisBind2 {K : Frag} {F : FuncData} {T KD : Addr} (hF : F = bisF F T KD) (h : KwOK K T KD) (s : Shared) (v0 v1 : Value) (X : K.In s.heap) : BindsTo s F ⟨[v0, v1], []⟩ [("a", v0), ("x", v1), ("lo", .int 0 (tokAt K T)), ("hi", .none), ("key", .none)] := by
  refine sEA (h.ns X) fun m hN hm => ?_
  rw [hF]
  exact bind2 (X _ _ h.t) h.td hN hm
theorem bisBind4 {K : Frag} {F : FuncData} {T KD : Addr} (hF : F = bisF F T KD) (h : KwOK K T KD) (s : Shared) (v0 v1 v2 v3 : Value) (X : K.In s.heap) : BindsTo s F ⟨[v0, v1, v2, v3], []⟩ [("a", v0), ("x", v1), ("lo", v2), ("hi", v3), ("key", .none)] := by
  refine sEA (h.ns X) fun m hN hm => ?_
  rw [hF]
  exact bind4 (X _ _ h.t) h.td hN hm
theorem d_bisect_right (w : World) : DefOK (u0 w) 69 nm_bisect_right (b_bisect_right w).ss := ⟨by kernel_rfl, by kernel_rfl, by kernel_rfl, by kernel_rfl, by kernel_rfl, by kernel_rfl, by kernel_rfl, by kernel_rfl, by kernel_rfl, by kernel_rfl⟩
theorem d_bisect_left (w : World) : DefOK (u0 w) 78 nm_bisect_left (b_bisect_left w).ss := ⟨by kernel_rfl, by kernel_rfl, by kernel_rfl, by kernel_rfl, by kernel_rfl, by kernel_rfl, by kernel_rfl, by kernel_rfl, by kernel_rfl, by kernel_rfl⟩
noncomputable def c_bisect_right (w : World) : Co (u0 w) 1 (.ref 69) := Co.ofDef 4 (b_bisect_right w) (d_bisect_right w) [.none] [.none] (fun _ => .cons .none .nil) (by decide) fun s vs X e => by
  refine len4 (P := fun l => BindsTo s _ ⟨l, []⟩ (List.zip _ (l ++ _))) (fun a0 a1 a2 a3 => ?_) vs e
  exact bisBind4 (fd69 w) (kw69 w) s a0 a1 a2 a3 X
noncomputable def c_bisect_left (w : World) : Co (u0 w) 1 (.ref 78) := Co.ofDef 2 (b_bisect_left w) (d_bisect_left w) [.int 0, .none, .none] [.int 0 (tokAt (u0 w).K 70), .none, .none] (fun _ => .cons (.int _ _) (.cons .none (.cons .none .nil))) (by decide) fun s vs X e => by
  refine len2 (P := fun l => BindsTo s _ ⟨l, []⟩ (List.zip _ (l ++ _))) (fun a0 a1 => ?_) vs e
  exact bisBind2 (fd78 w) (kw78 w) s a0 a1 X
noncomputable def nm_insort_right : Nm := ⟨[("a", .local), ("x", .local), ("lo", .local), ("hi", .local), ("key", .local)], ["bisect_right"]⟩
noncomputable def c_insort_right (w : World) : InsC (u0 w) 2 60 := insC (na := "a") (nx := "x") (nlo := "lo") (nhi := "hi") (nkey := "key") (bn := "bisect_right") (tL := tokAt (u0 w).K 52) (C := nm_insort_right) (fd := fdOf (u0 w).K 60) (oc := .type "function") (od := none) (osl := #[])
  (XT.cmp .Is (XE.loc 4 ⟨23, 7, 23, 10⟩ "key" .local (by rfl)) (XE.none 0 ⟨23, 14, 23, 18⟩) ⟨23, 7, 23, 18⟩ (by rfl)) (c_bisect_right w) ⟨24, 8, 24, 10⟩ ⟨24, 13, 24, 25⟩ ⟨24, 13, 24, 39⟩ ⟨24, 8, 24, 39⟩ ⟨23, 4, 26, 53⟩ ⟨27, 4, 27, 5⟩ ⟨27, 4, 27, 12⟩ ⟨27, 4, 27, 19⟩ ⟨27, 4, 27, 19⟩ ⟨24, 26, 24, 27⟩ ⟨24, 29, 24, 30⟩ ⟨24, 32, 24, 34⟩ ⟨24, 36, 24, 38⟩ ⟨27, 13, 27, 15⟩ ⟨27, 17, 27, 18⟩
  [((PySem.Stmt.Assign (targets := [(PySem.Expr.Name "lo" ⟨26, 8, 26, 10⟩)]) (value := (PySem.Expr.Call (func := (PySem.Expr.Name "bisect_right" ⟨26, 13, 26, 25⟩)) (args := [ (PySem.Expr.Name "a" ⟨26, 26, 26, 27⟩), (PySem.Expr.Call (func := (PySem.Expr.Name "key" ⟨26, 29, 26, 32⟩)) (args := [(PySem.Expr.Name "x" ⟨26, 33, 26, 34⟩)]) (keywords := []) (pos := ⟨26, 29, 26, 35⟩)), (PySem.Expr.Name "lo" ⟨26, 37, 26, 39⟩), (PySem.Expr.Name "hi" ⟨26, 41, 26, 43⟩)]) (keywords := [ { arg := (some "key"), value := (PySem.Expr.Name "key" ⟨26, 49, 26, 52⟩), pos := ⟨26, 45, 26, 52⟩ : PySem.Keyword }]) (pos := ⟨26, 13, 26, 53⟩))) (pos := ⟨26, 8, 26, 53⟩)))] rfl (by kernel_rfl) (by kernel_rfl) (by kernel_rfl) (NmOK.of (by kernel_rfl)) (by kernel_rfl) (by kernel_rfl)
  (fun x m => by have := List.all_eq_true.mp (show (fdOf (u0 w).K 60).scope.names.all (fun x => x.2 != .cell) = true by kernel_rfl) x m; simpa using this) (by kernel_rfl) (by kernel_rfl)
  (fun s v0 v1 X => bisBind2 (fd60 w) (kw60 w) s v0 v1 X) (by rfl) (Keepable.fn (by kernel_rfl)) (by decide +kernel) (by rfl) (by rfl) (fun _ _ => rfl)
noncomputable def nm_law_marks : Nm := ⟨[("top", .local), ("cells", .local), ("row", .local), ("fresh", .local), ("turn", .local), ("size", .local), ("heavy", .local), ("k", .local), ("dress", .local), ("text", .local), ("due", .local), ("told", .local), ("mark", .local), ("place", .local)], ["range", "_law_zone", "offset_from_tz_string", "bisect_left", "insort_right", "_law_weight"]⟩
noncomputable def b_law_marks (w : World) : XS (u0 w) 2 nm_law_marks :=
  (XS.cons
  (X1.assignOwn 2 "row" .local (by rfl) (by decide) [] (Nat.le_of_ble_eq_true rfl) ⟨170, 10, 170, 12⟩ ⟨170, 4, 170, 7⟩ ⟨170, 4, 170, 12⟩)
  (XS.cons
  (X1.assignOwn 3 "fresh" .local (by rfl) (by decide) [] (Nat.le_of_ble_eq_true rfl) ⟨171, 12, 171, 14⟩ ⟨171, 4, 171, 9⟩ ⟨171, 4, 171, 14⟩)
  (XS.cons
  (X1.assign 4 "turn" .local (by rfl) (by decide) (XE.int 0 0 ⟨172, 11, 172, 12⟩) ⟨172, 4, 172, 8⟩ ⟨172, 4, 172, 12⟩ (fun _ => rfl))
  (XS.cons
  (X1.for_ (XG.name 5 "size" .local (by rfl) (by decide) ⟨173, 8, 173, 12⟩) (fun _ _ => rfl) (XE.callB "range" (.type "range") rangeC [⟨(XE.int 1 0 ⟨173, 22, 173, 23⟩), rfl⟩, ⟨(XE.bin .Add (XE.loc 0 ⟨173, 25, 173, 28⟩ "top" .local (by rfl)) (XE.int 1 0 ⟨173, 31, 173, 32⟩) ⟨173, 25, 173, 32⟩), rfl⟩] ⟨173, 16, 173, 21⟩ ⟨173, 16, 173, 33⟩ (by rfl) Keepable.ty (by decide +kernel) (by rfl)) (XS.cons
   (X1.assign 6 "heavy" .local (by rfl) (by decide) (XE.int 0 0 ⟨174, 16, 174, 17⟩) ⟨174, 8, 174, 13⟩ ⟨174, 8, 174, 17⟩ (fun _ => rfl))
   (XS.cons
   (X1.for_ (XG.name 7 "k" .local (by rfl) (by decide) ⟨175, 12, 175, 13⟩) (fun _ _ => rfl) (XE.callB "range" (.type "range") rangeC [⟨(XE.loc 5 ⟨175, 23, 175, 27⟩ "size" .local (by rfl)), rfl⟩] ⟨175, 17, 175, 22⟩ ⟨175, 17, 175, 28⟩ (by rfl) Keepable.ty (by decide +kernel) (by rfl)) (XS.cons
    (X1.assign 8 "dress" .local (by rfl) (by decide) (XE.bin .Mod (XE.bin .Add (XE.idx (XE.loc 1 ⟨176, 21, 176, 26⟩ "cells" .local (by rfl)) (XE.int 2 0 ⟨176, 27, 176, 28⟩) ⟨176, 21, 176, 29⟩) (XE.bin .Mult (XE.loc 4 ⟨176, 32, 176, 36⟩ "turn" .local (by rfl)) (XE.loc 4 ⟨176, 39, 176, 43⟩ "turn" .local (by rfl)) ⟨176, 32, 176, 43⟩) ⟨176, 21, 176, 43⟩) (XE.int 5 0 ⟨176, 47, 176, 48⟩) ⟨176, 20, 176, 48⟩) ⟨176, 12, 176, 17⟩ ⟨176, 12, 176, 48⟩ (fun _ => rfl))
    (XS.cons
    (X1.assignT (XG.tup [⟨(XG.name 9 "text" .local (by rfl) (by decide) ⟨177, 12, 177, 16⟩), rfl⟩, ⟨(XG.name 10 "due" .local (by rfl) (by decide) ⟨177, 18, 177, 21⟩), rfl⟩] 0 ⟨177, 12, 177, 21⟩) (XE.call "_law_zone" (.ref 218) ((c_law_zone w).lift (by decide)) [⟨(XE.bin .FloorDiv (XE.bin .Mult (XE.int 60 0 ⟨177, 34, 177, 36⟩) (XE.loc 7 ⟨177, 39, 177, 40⟩ "k" .local (by rfl)) ⟨177, 34, 177, 40⟩) (XE.loc 5 ⟨177, 44, 177, 48⟩ "size" .local (by rfl)) ⟨177, 34, 177, 48⟩), rfl⟩, ⟨(XE.loc 8 ⟨177, 50, 177, 55⟩ "dress" .local (by rfl)), rfl⟩, ⟨(XE.bin .Mod (XE.bin .Add (XE.bin .FloorDiv (XE.idx (XE.loc 1 ⟨177, 58, 177, 63⟩ "cells" .local (by rfl)) (XE.int 2 0 ⟨177, 64, 177, 65⟩) ⟨177, 58, 177, 66⟩) (XE.int 5 0 ⟨177, 70, 177, 71⟩) ⟨177, 58, 177, 71⟩) (XE.loc 4 ⟨177, 74, 177, 78⟩ "turn" .local (by rfl)) ⟨177, 58, 177, 78⟩) (XE.int 24 0 ⟨177, 82, 177, 84⟩) ⟨177, 57, 177, 84⟩), rfl⟩] ⟨177, 24, 177, 33⟩ ⟨177, 24, 177, 85⟩ (by rfl) (Keepable.fn (by kernel_rfl)) (by decide +kernel) (by rfl)) ⟨177, 12, 177, 85⟩ (by rfl) (fun _ => rfl) (fun _ => rfl))
    (XS.cons
    (X1.assign 11 "told" .local (by rfl) (by decide) (XE.call "offset_from_tz_string" (.ref 51) ((c_offset_from_tz_string w).lift (by decide)) [⟨(XE.loc 9 ⟨178, 41, 178, 45⟩ "text" .local (by rfl)), rfl⟩] ⟨178, 19, 178, 40⟩ ⟨178, 19, 178, 46⟩ (by rfl) (Keepable.fn (by kernel_rfl)) (by decide +kernel) (by rfl)) ⟨178, 12, 178, 16⟩ ⟨178, 12, 178, 46⟩ (fun _ => rfl))
    (XS.cons
    (X1.ite (XT.cmp .NotEq (XE.loc 11 ⟨179, 15, 179, 19⟩ "told" .local (by rfl)) (XE.loc 10 ⟨179, 23, 179, 26⟩ "due" .local (by rfl)) ⟨179, 15, 179, 26⟩ (by rfl)) (XS.cons
     (X1.ret (XE.tup [⟨(XE.list [] ⟨180, 24, 180, 26⟩ (Nat.le_of_ble_eq_true rfl)), rfl⟩, ⟨(XE.list [] ⟨180, 28, 180, 30⟩ (Nat.le_of_ble_eq_true rfl)), rfl⟩] 0 ⟨180, 23, 180, 31⟩ (Nat.le_of_ble_eq_true rfl)) ⟨180, 16, 180, 31⟩)
     XS.nil) XS.nil ⟨179, 12, 180, 31⟩)
    (XS.cons
    (X1.assign 12 "mark" .local (by rfl) (by decide) (XE.bin .FloorDiv (XE.bin .Mod (XE.loc 11 ⟨181, 19, 181, 23⟩ "told" .local (by rfl)) (XE.int 3600 0 ⟨181, 26, 181, 30⟩) ⟨181, 19, 181, 30⟩) (XE.int 60 0 ⟨181, 34, 181, 36⟩) ⟨181, 19, 181, 36⟩) ⟨181, 12, 181, 16⟩ ⟨181, 12, 181, 36⟩ (fun _ => rfl))
    (XS.cons
    (X1.assign 13 "place" .local (by rfl) (by decide) (XE.call "bisect_left" (.ref 78) ((c_bisect_left w).lift (by decide)) [⟨(XE.loc 2 ⟨182, 32, 182, 35⟩ "row" .local (by rfl)), rfl⟩, ⟨(XE.loc 12 ⟨182, 37, 182, 41⟩ "mark" .local (by rfl)), rfl⟩] ⟨182, 20, 182, 31⟩ ⟨182, 20, 182, 42⟩ (by rfl) (Keepable.fn (by kernel_rfl)) (by decide +kernel) (by rfl)) ⟨182, 12, 182, 17⟩ ⟨182, 12, 182, 42⟩ (fun _ => rfl))
    (XS.cons
    (X1.ite (XT.cmp .NotEq (XE.slice (XE.loc 2 ⟨183, 15, 183, 18⟩ "row" .local (by rfl)) (some (XE.loc 13 ⟨183, 19, 183, 24⟩ "place" .local (by rfl))) (some (XE.bin .Add (XE.loc 13 ⟨183, 25, 183, 30⟩ "place" .local (by rfl)) (XE.int 1 0 ⟨183, 33, 183, 34⟩) ⟨183, 25, 183, 34⟩)) Option.none ⟨183, 19, 183, 34⟩ ⟨183, 15, 183, 35⟩) (XE.list [⟨(XE.loc 12 ⟨183, 40, 183, 44⟩ "mark" .local (by rfl)), rfl⟩] ⟨183, 39, 183, 45⟩ (Nat.le_of_ble_eq_true rfl)) ⟨183, 15, 183, 45⟩ (by rfl)) (XS.cons
     (X1.insort 2 12 "row" "mark" (by rfl) (by rfl) "insort_right" 60 (c_insort_right w) ⟨184, 29, 184, 32⟩ ⟨184, 34, 184, 38⟩ ⟨184, 16, 184, 28⟩ ⟨184, 16, 184, 39⟩ ⟨184, 16, 184, 39⟩ (by rfl) (Keepable.fn (by kernel_rfl)) (by decide +kernel) (by rfl))
     (XS.cons
     (X1.assign 6 "heavy" .local (by rfl) (by decide) (XE.bin .Add (XE.loc 6 ⟨185, 24, 185, 29⟩ "heavy" .local (by rfl)) (XE.call "_law_weight" (.ref 225) ((c_law_weight w).lift (by decide)) [⟨(XE.loc 1 ⟨185, 44, 185, 49⟩ "cells" .local (by rfl)), rfl⟩, ⟨(XE.loc 12 ⟨185, 51, 185, 55⟩ "mark" .local (by rfl)), rfl⟩] ⟨185, 32, 185, 43⟩ ⟨185, 32, 185, 56⟩ (by rfl) (Keepable.fn (by kernel_rfl)) (by decide +kernel) (by rfl)) ⟨185, 24, 185, 56⟩) ⟨185, 16, 185, 21⟩ ⟨185, 16, 185, 56⟩ (fun _ => rfl))
     XS.nil)) XS.nil ⟨183, 12, 185, 56⟩)
    (XS.cons
    (X1.assign 4 "turn" .local (by rfl) (by decide) (XE.bin .Add (XE.loc 4 ⟨186, 19, 186, 23⟩ "turn" .local (by rfl)) (XE.int 1 0 ⟨186, 26, 186, 27⟩) ⟨186, 19, 186, 27⟩) ⟨186, 12, 186, 16⟩ ⟨186, 12, 186, 27⟩ (fun _ => rfl))
    XS.nil)))))))) ⟨175, 8, 186, 27⟩ (fun _ _ => rfl))
   (XS.cons
   (X1.app 3 "fresh" .local (by rfl) ⟨(XE.loc 6 ⟨187, 21, 187, 26⟩ "heavy" .local (by rfl)), rfl⟩ ⟨187, 8, 187, 13⟩ ⟨187, 8, 187, 20⟩ ⟨187, 8, 187, 27⟩ ⟨187, 8, 187, 27⟩ (by rfl))
   XS.nil))) ⟨173, 4, 187, 27⟩ (fun _ _ => rfl))
  (XS.cons
  (X1.ret (XE.tup [⟨(XE.loc 2 ⟨188, 12, 188, 15⟩ "row" .local (by rfl)), rfl⟩, ⟨(XE.loc 3 ⟨188, 17, 188, 22⟩ "fresh" .local (by rfl)), rfl⟩] 0 ⟨188, 11, 188, 23⟩ (Nat.le_of_ble_eq_true rfl)) ⟨188, 4, 188, 23⟩)
  XS.nil)))))
theorem d_law_marks (w : World) : DefOK (u0 w) 232 nm_law_marks (b_law_marks w).ss := ⟨by kernel_rfl, by kernel_rfl, by kernel_rfl, by kernel_rfl, by kernel_rfl, by kernel_rfl, by kernel_rfl, by kernel_rfl, by kernel_rfl, by kernel_rfl⟩
theorem e_law_marks (w : World) : ∀ vs : List Value, vs.length = 2 → bindArgs (fdOf (u0 w).K 232) ⟨vs, []⟩ = pure ((nm_law_marks.slots.map (·.1)).zip vs) := fun vs e => by
  refine len2 (P := fun l => bindArgs _ ⟨l, []⟩ = pure (List.zip _ l)) (fun a0 a1 => ?_) vs e
  kernel_rfl
noncomputable def c_law_marks (w : World) : Co (u0 w) 3 (.ref 232) := Co.ofDef0 2 (b_law_marks w) (d_law_marks w) (by decide) (e_law_marks w)
noncomputable def Co.ofDef2c {u : U} {n : Nat} {C : Nm} {fa : Addr} {x0 x1 : Str} (body : XS u n C) (hC : C.slots = [(x0, .local), (x1, .cell)]) (hd : isDef u.K fa = true) (hcode : codeIn u.K (fdOf u.K fa).code (fdOf u.K fa).qualname = true) (hbody : (fdOf u.K fa).body = .stmts body.ss)
    (hnm : NmOK C (fdOf u.K fa).scope) (hglob : (fdOf u.K fa).globals = mainGlobals) (hbi : (fdOf u.K fa).builtins = builtinsNs)
    (hco : (fdOf u.K fa).scope.isCoroutine = false) (hgen : (fdOf u.K fa).scope.isGenerator = false) (hclo : (fdOf u.K fa).closure = [])
    (hcl : ∀ k : Nat, ((cellsFrom k (fdOf u.K fa).scope.names []).lookup x1).isSome = true)
    (hbind : ∀ v0 v1 : Value, bindArgs (fdOf u.K fa) ⟨[v0, v1], []⟩ = pure [(x0, v0), (x1, v1)]) : Co u (n + 1) (.ref fa) where
  den args := match args with
    | [a0, a1] => retOf (body.den [.val a0, .val a1])
    | _ => none
  ok := by
    intro args r e
    (refine Classical.byContradiction fun hnn => ?_; split at (e) <;> (refine hnn ?_; clear hnn))
    · refine sEEA (retOf_some e) fun fl σ' e1 e2 => ?_
      refine sEEE (isDef_of hd) fun oc od osl hK => ?_
      exact fn_intro2c body hC hK hcode hbody hnm hglob hbi hco hgen hclo hcl hbind e1 e2
    · exact nn0 e
theorem scW (w : World) : ∀ k : Nat, ((cellsFrom k (fdOf (u0 w).K 244).scope.names []).lookup ("size" : Str)).isSome = true := fun k => by kernel_rfl
theorem turn2 (elt t0 i0 t1 i1 : PySem.Expr) (ifs0 ifs1 : List PySem.Expr) (scope : Scope) (pos : Pos) (it acc : Value) (env : Env) :
    compTurn (.ListComp elt [⟨t0, i0, ifs0, 0⟩, ⟨t1, i1, ifs1, 0⟩] scope pos) 0 it acc env = turnForm (.ListComp elt [⟨t0, i0, ifs0, 0⟩, ⟨t1, i1, ifs1, 0⟩] scope pos) 0 t0 i0.pos ifs0
      (do
        let x ← eval i1 env
        standAt i1.pos
        let x ← foldedSetIterable i1 env x
        let _ ← runOwn (.compStart (.ListComp elt [⟨t0, i0, ifs0, 0⟩, ⟨t1, i1, ifs1, 0⟩] scope pos) 1 (← holding [x] (pyIter x)) acc env) env) it acc env := by
  unfold compTurn turnForm turnTail
  simp only [List.getElem?_cons_zero, List.getElem?_cons_succ]
  show (standAt i0.pos >>= _) = (standAt i0.pos >>= _)
  congr 1
  funext _
  show (pyNext it >>= _) = (pyNext it >>= _)
  congr 1
  funext r
  cases r with
  | none => rfl
  | some v =>
    dsimp only
    congr 1
    funext _
    congr 1
    funext _
    congr 1
    funext ok
    cases ok with
    | false => rfl
    | true =>
      simp only [if_true, bind_assoc, pure_bind]
      rfl
noncomputable def nm_law_heft : Nm := ⟨[("runs", .local), ("cells", .local), ("total", .local), ("run", .local), ("size", .local), ("k", .local)], ["range", "_law_weight"]⟩
noncomputable def b_law_heft (w : World) : XS (u0 w) 1 nm_law_heft :=
  (XS.cons
  (X1.assign 2 "total" .local (by rfl) (by decide) (XE.int 0 0 ⟨190, 12, 190, 13⟩) ⟨190, 4, 190, 9⟩ ⟨190, 4, 190, 13⟩ (fun _ => rfl))
  (XS.cons
  (X1.for_ (XG.name 3 "run" .local (by rfl) (by decide) ⟨191, 8, 191, 11⟩) (fun _ _ => rfl) (XE.loc 0 ⟨191, 15, 191, 19⟩ "runs" .local (by rfl)) (XS.cons
   (X1.for_ (XG.name 4 "size" .local (by rfl) (by decide) ⟨192, 12, 192, 16⟩) (fun _ _ => rfl) (XE.callB "range" (.type "range") rangeC [⟨(XE.int 1 0 ⟨192, 26, 192, 27⟩), rfl⟩, ⟨(XE.bin .Add (XE.loc 3 ⟨192, 29, 192, 32⟩ "run" .local (by rfl)) (XE.int 1 0 ⟨192, 35, 192, 36⟩) ⟨192, 29, 192, 36⟩), rfl⟩] ⟨192, 20, 192, 25⟩ ⟨192, 20, 192, 37⟩ (by rfl) Keepable.ty (by decide +kernel) (by rfl)) (XS.cons
    (X1.for_ (XG.name 5 "k" .local (by rfl) (by decide) ⟨193, 16, 193, 17⟩) (fun _ _ => rfl) (XE.callB "range" (.type "range") rangeC [⟨(XE.loc 4 ⟨193, 27, 193, 31⟩ "size" .local (by rfl)), rfl⟩] ⟨193, 21, 193, 26⟩ ⟨193, 21, 193, 32⟩ (by rfl) Keepable.ty (by decide +kernel) (by rfl)) (XS.cons
     (X1.assign 2 "total" .local (by rfl) (by decide) (XE.bin .Add (XE.loc 2 ⟨194, 24, 194, 29⟩ "total" .local (by rfl)) (XE.call "_law_weight" (.ref 225) ((c_law_weight w).lift (by decide)) [⟨(XE.loc 1 ⟨194, 44, 194, 49⟩ "cells" .local (by rfl)), rfl⟩, ⟨(XE.bin .FloorDiv (XE.bin .Mult (XE.int 60 0 ⟨194, 51, 194, 53⟩) (XE.loc 5 ⟨194, 56, 194, 57⟩ "k" .local (by rfl)) ⟨194, 51, 194, 57⟩) (XE.loc 4 ⟨194, 61, 194, 65⟩ "size" .local (by rfl)) ⟨194, 51, 194, 65⟩), rfl⟩] ⟨194, 32, 194, 43⟩ ⟨194, 32, 194, 66⟩ (by rfl) (Keepable.fn (by kernel_rfl)) (by decide +kernel) (by rfl)) ⟨194, 24, 194, 66⟩) ⟨194, 16, 194, 21⟩ ⟨194, 16, 194, 66⟩ (fun _ => rfl))
     XS.nil) ⟨193, 12, 194, 66⟩ (fun _ _ => rfl))
    XS.nil) ⟨192, 8, 194, 66⟩ (fun _ _ => rfl))
   XS.nil) ⟨191, 4, 194, 66⟩ (fun _ _ => rfl))
  (XS.cons
  (X1.ret (XE.loc 2 ⟨195, 11, 195, 16⟩ "total" .local (by rfl)) ⟨195, 4, 195, 16⟩)
  XS.nil)))
theorem d_law_heft (w : World) : DefOK (u0 w) 239 nm_law_heft (b_law_heft w).ss := ⟨by kernel_rfl, by kernel_rfl, by kernel_rfl, by kernel_rfl, by kernel_rfl, by kernel_rfl, by kernel_rfl, by kernel_rfl, by kernel_rfl, by kernel_rfl⟩
theorem e_law_heft (w : World) : ∀ vs : List Value, vs.length = 2 → bindArgs (fdOf (u0 w).K 239) ⟨vs, []⟩ = pure ((nm_law_heft.slots.map (·.1)).zip vs) := fun vs e => by
  refine len2 (P := fun l => bindArgs _ ⟨l, []⟩ = pure (List.zip _ l)) (fun a0 a1 => ?_) vs e
  kernel_rfl
noncomputable def c_law_heft (w : World) : Co (u0 w) 2 (.ref 239) := Co.ofDef0 2 (b_law_heft w) (d_law_heft w) (by decide) (e_law_heft w)
noncomputable def nm_law_wholes : Nm := ⟨[("runs", .local), ("size", .cell)], ["len"]⟩
noncomputable def nm_law_wholes_c1 : Nm := ⟨[("run", .local), ("column", .local), ("size", .free)], ["range"]⟩
noncomputable def b_law_wholes (w : World) : XS (u0 w) 0 nm_law_wholes :=
  (XS.cons
  (X1.ret (XE.callB "len" (.builtin "len") lenC [⟨(XE.listComp (C' := nm_law_wholes_c1) 2 [1] ((PySem.Expr.Name "column" ⟨197, 16, 197, 22⟩)) [⟨(PySem.Expr.Name "column" ⟨197, 43, 197, 49⟩), (PySem.Expr.Call (func := (PySem.Expr.Name "range" ⟨197, 53, 197, 58⟩)) (args := [ (PySem.Expr.Constant (PySem.Const.int 1) 0 ⟨197, 59, 197, 60⟩), (PySem.Expr.BinOp (left := (PySem.Expr.Name "run" ⟨197, 62, 197, 65⟩)) (op := PySem.Operator.Add) (right := (PySem.Expr.Constant (PySem.Const.int 1) 0 ⟨197, 68, 197, 69⟩)) (pos := ⟨197, 62, 197, 69⟩))]) (keywords := []) (pos := ⟨197, 53, 197, 70⟩)), [(PySem.Expr.Compare (left := (PySem.Expr.BinOp (left := (PySem.Expr.Name "column" ⟨197, 74, 197, 80⟩)) (op := PySem.Operator.Mod) (right := (PySem.Expr.Name "size" ⟨197, 83, 197, 87⟩)) (pos := ⟨197, 74, 197, 87⟩))) (ops := [PySem.CmpOp.Eq]) (comparators := [(PySem.Expr.Constant (PySem.Const.int 0) 0 ⟨197, 91, 197, 92⟩)]) (pos := ⟨197, 74, 197, 92⟩))], 0⟩] ({ kind := PySem.ScopeKind.function, names := [ (PySem.Str.ofString ".0", PySem.NameKind.local), (PySem.Str.ofString "run", PySem.NameKind.local), (PySem.Str.ofString "column", PySem.NameKind.local), (PySem.Str.ofString "range", PySem.NameKind.globalImplicit), (PySem.Str.ofString "size", PySem.NameKind.free)], isGenerator := false, isCoroutine := false, more := [] : PySem.Scope }) ⟨197, 15, 197, 93⟩ (XG.name 0 "run" .local (by rfl) (by decide) ⟨197, 27, 197, 30⟩) (XE.loc 0 ⟨197, 34, 197, 38⟩ "runs" .local (by rfl)) Option.none (XCB.for_ ((PySem.Expr.Name "column" ⟨197, 16, 197, 22⟩)) [⟨(PySem.Expr.Name "run" ⟨197, 27, 197, 30⟩), (PySem.Expr.Name "runs" ⟨197, 34, 197, 38⟩), [], 0⟩, ⟨(PySem.Expr.Name "column" ⟨197, 43, 197, 49⟩), (PySem.Expr.Call (func := (PySem.Expr.Name "range" ⟨197, 53, 197, 58⟩)) (args := [ (PySem.Expr.Constant (PySem.Const.int 1) 0 ⟨197, 59, 197, 60⟩), (PySem.Expr.BinOp (left := (PySem.Expr.Name "run" ⟨197, 62, 197, 65⟩)) (op := PySem.Operator.Add) (right := (PySem.Expr.Constant (PySem.Const.int 1) 0 ⟨197, 68, 197, 69⟩)) (pos := ⟨197, 62, 197, 69⟩))]) (keywords := []) (pos := ⟨197, 53, 197, 70⟩)), [(PySem.Expr.Compare (left := (PySem.Expr.BinOp (left := (PySem.Expr.Name "column" ⟨197, 74, 197, 80⟩)) (op := PySem.Operator.Mod) (right := (PySem.Expr.Name "size" ⟨197, 83, 197, 87⟩)) (pos := ⟨197, 74, 197, 87⟩))) (ops := [PySem.CmpOp.Eq]) (comparators := [(PySem.Expr.Constant (PySem.Const.int 0) 0 ⟨197, 91, 197, 92⟩)]) (pos := ⟨197, 74, 197, 92⟩))], 0⟩] ({ kind := PySem.ScopeKind.function, names := [ (PySem.Str.ofString ".0", PySem.NameKind.local), (PySem.Str.ofString "run", PySem.NameKind.local), (PySem.Str.ofString "column", PySem.NameKind.local), (PySem.Str.ofString "range", PySem.NameKind.globalImplicit), (PySem.Str.ofString "size", PySem.NameKind.free)], isGenerator := false, isCoroutine := false, more := [] : PySem.Scope }) ⟨197, 15, 197, 93⟩ 1 (XG.name 1 "column" .local (by rfl) (by decide) ⟨197, 43, 197, 49⟩) (XE.callB "range" (.type "range") rangeC [⟨(XE.int 1 0 ⟨197, 59, 197, 60⟩), rfl⟩, ⟨(XE.bin .Add (XE.loc 0 ⟨197, 62, 197, 65⟩ "run" .local (by rfl)) (XE.int 1 0 ⟨197, 68, 197, 69⟩) ⟨197, 62, 197, 69⟩), rfl⟩] ⟨197, 53, 197, 58⟩ ⟨197, 53, 197, 70⟩ (by rfl) Keepable.ty (by decide +kernel) (by rfl)) (some (XT.cmp .Eq (XE.bin .Mod (XE.loc 1 ⟨197, 74, 197, 80⟩ "column" .local (by rfl)) (XE.loc 2 ⟨197, 83, 197, 87⟩ "size" .free (by rfl)) ⟨197, 74, 197, 87⟩) (XE.int 0 0 ⟨197, 91, 197, 92⟩) ⟨197, 74, 197, 92⟩ (by rfl))) (XCB.emit (XE.loc 1 ⟨197, 16, 197, 22⟩ "column" .local (by rfl))) (fun _ _ _ => by rfl) (by rfl) (fun _ _ => rfl) (fun _ _ => rfl)) (CompOK.of (by decide +kernel)) (fun it acc env => turn2 _ _ _ _ _ _ _ _ _ it acc env) (fun _ _ => rfl) (fun _ _ => rfl)), rfl⟩] ⟨197, 11, 197, 14⟩ ⟨197, 11, 197, 94⟩ (by rfl) Keepable.bi (by decide +kernel) (by rfl)) ⟨197, 4, 197, 94⟩)
  XS.nil)
theorem c2_law_wholes (w : World) : isDef (u0 w).K 244 = true ∧ codeIn (u0 w).K (fdOf (u0 w).K 244).code (fdOf (u0 w).K 244).qualname = true ∧ (fdOf (u0 w).K 244).body = .stmts (b_law_wholes w).ss ∧ nmB nm_law_wholes (fdOf (u0 w).K 244).scope = true ∧ (fdOf (u0 w).K 244).globals = mainGlobals ∧ (fdOf (u0 w).K 244).builtins = builtinsNs := ⟨by kernel_rfl, by kernel_rfl, by kernel_rfl, by kernel_rfl, by kernel_rfl, by kernel_rfl⟩
noncomputable def c_law_wholes (w : World) : Co (u0 w) 1 (.ref 244) := Co.ofDef2c (x0 := "runs") (x1 := "size") (b_law_wholes w) (by rfl) (c2_law_wholes w).1 (c2_law_wholes w).2.1 (c2_law_wholes w).2.2.1 (NmOK.of (c2_law_wholes w).2.2.2.1) (c2_law_wholes w).2.2.2.2.1 (c2_law_wholes w).2.2.2.2.2 (by kernel_rfl) (by kernel_rfl) (by kernel_rfl) (scW w) (fun v0 v1 => by kernel_rfl)
noncomputable def nm_law_said : Nm := ⟨[("first", .local), ("second", .local), ("witness", .local), ("number", .local), ("line", .local), ("same", .local), ("nag", .local)], ["NannyNag", "format_witnesses"]⟩
noncomputable def b_law_said (w : World) : XS (u0 w) 1 nm_law_said :=
  (XS.cons (X1.assign 5 "same" .local (by rfl) (by decide) (XE.meth (XE.loc 0 ⟨199, 11, 199, 16⟩ "first" .local (by rfl)) 181 "equal" 157 ((c_Whitespace_equal w).lift (by decide)) [⟨(XE.loc 1 ⟨199, 23, 199, 29⟩ "second" .local (by rfl)), rfl⟩] ⟨199, 11, 199, 22⟩ ⟨199, 11, 199, 30⟩ (ws_ok w) (by kernel_rfl) (by kernel_rfl) (Keepable.fn (by kernel_rfl)) (fun _ => rfl) (Nat.le_of_ble_eq_true rfl) (by rfl)) ⟨199, 4, 199, 8⟩ ⟨199, 4, 199, 30⟩ (fun _ => rfl)) (XS.cons (X1.tryPass (XS.cons (X1.ite (XT.cmp .Is (XE.loc 5 ⟨201, 11, 201, 15⟩ "same" .local (by rfl)) (XE.bool false 0 ⟨201, 19, 201, 24⟩) ⟨201, 11, 201, 24⟩ (by rfl)) (XS.cons (X1.opq ((PySem.Stmt.Raise (exc := (some (PySem.Expr.Call (func := (PySem.Expr.Name "NannyNag" ⟨202, 18, 202, 26⟩)) (args := [ (PySem.Expr.Name "number" ⟨202, 27, 202, 33⟩), (PySem.Expr.BinOp (left := (PySem.Expr.Constant (PySem.Const.str "indent not equal e.g. ") 0 ⟨202, 35, 202, 59⟩)) (op := PySem.Operator.Add) (right := (PySem.Expr.Call (func := (PySem.Expr.Name "format_witnesses" ⟨202, 62, 202, 78⟩)) (args := [(PySem.Expr.Name "witness" ⟨202, 79, 202, 86⟩)]) (keywords := []) (pos := ⟨202, 62, 202, 87⟩))) (pos := ⟨202, 35, 202, 87⟩)), (PySem.Expr.Name "line" ⟨202, 89, 202, 93⟩)]) (keywords := []) (pos := ⟨202, 18, 202, 94⟩)))) (cause := none) (pos := ⟨202, 12, 202, 94⟩)))) XS.nil) XS.nil ⟨201, 8, 202, 94⟩) XS.nil) ((PySem.ExceptHandler.ExceptHandler (type := (some (PySem.Expr.Name "NannyNag" ⟨203, 11, 203, 19⟩))) (name := (some "nag")) (body := [ (PySem.Stmt.Return (value := (some (PySem.Expr.List (elts := [ (PySem.Expr.Call (func := (PySem.Expr.Attribute (PySem.Expr.Name "nag" ⟨204, 16, 204, 19⟩) "get_lineno" ⟨204, 16, 204, 30⟩)) (args := []) (keywords := []) (pos := ⟨204, 16, 204, 32⟩)), (PySem.Expr.Call (func := (PySem.Expr.Attribute (PySem.Expr.Name "nag" ⟨204, 34, 204, 37⟩) "get_msg" ⟨204, 34, 204, 45⟩)) (args := []) (keywords := []) (pos := ⟨204, 34, 204, 47⟩)), (PySem.Expr.Call (func := (PySem.Expr.Attribute (PySem.Expr.Name "nag" ⟨204, 49, 204, 52⟩) "get_line" ⟨204, 49, 204, 61⟩)) (args := []) (keywords := []) (pos := ⟨204, 49, 204, 63⟩))]) (pos := ⟨204, 15, 204, 64⟩)))) (pos := ⟨204, 8, 204, 64⟩))]) (pos := ⟨203, 4, 204, 64⟩))) [] ⟨200, 4, 204, 64⟩) (XS.cons (X1.ret (XE.ifx (XT.cmp .Is (XE.loc 5 ⟨205, 17, 205, 21⟩ "same" .local (by rfl)) (XE.bool true 0 ⟨205, 25, 205, 29⟩) ⟨205, 17, 205, 29⟩ (by rfl)) (XE.list [] ⟨205, 11, 205, 13⟩ (Nat.le_of_ble_eq_true rfl)) (XE.list [⟨(XE.loc 5 ⟨205, 36, 205, 40⟩ "same" .local (by rfl)), rfl⟩] ⟨205, 35, 205, 41⟩ (Nat.le_of_ble_eq_true rfl)) ⟨205, 11, 205, 41⟩) ⟨205, 4, 205, 41⟩) XS.nil)))
theorem d_law_said (w : World) : DefOK (u0 w) 251 nm_law_said (b_law_said w).ss := ⟨by kernel_rfl, by kernel_rfl, by kernel_rfl, by kernel_rfl, by kernel_rfl, by kernel_rfl, by kernel_rfl, by kernel_rfl, by kernel_rfl, by kernel_rfl⟩
theorem e_law_said (w : World) : ∀ vs : List Value, vs.length = 5 → bindArgs (fdOf (u0 w).K 251) ⟨vs, []⟩ = pure ((nm_law_said.slots.map (·.1)).zip vs) := fun vs e => by
  refine len5 (P := fun l => bindArgs _ ⟨l, []⟩ = pure (List.zip _ l)) (fun a0 a1 a2 a3 a4 => ?_) vs e
  kernel_rfl
noncomputable def c_law_said (w : World) : Co (u0 w) 2 (.ref 251) := Co.ofDef0 5 (b_law_said w) (d_law_said w) (by decide) (e_law_said w)
noncomputable def nm_law : Nm := ⟨[("script", .local), ("cells", .local), ("ours", .local), ("theirs", .local), ("behind", .local), ("line", .local), ("first", .cell), ("second", .cell), ("top", .local), ("row", .local), ("fresh", .local), ("size", .local), ("heft", .local), ("whole", .local), ("over", .local), ("sizes", .local), ("witness", .local), ("gain", .local), ("far", .local), ("near", .local), ("steps", .local), ("due", .local), ("words", .local)], ["len", "_law_figures", "_law_others", "_law_line", "Whitespace", "max", "_law_marks", "sorted", "set", "range", "divmod", "_law_heft", "_law_wholes", "_law_said"]⟩
noncomputable def nm_law_c1 : Nm := ⟨[("size", .local)], ["str"]⟩
noncomputable def nm_law_c2 : Nm := ⟨[("size", .local), ("first", .free), ("second", .free)], []⟩
noncomputable def nm_law_c3 : Nm := ⟨[("size", .local), ("k", .local)], ["range"]⟩
noncomputable def nm_law_c4 : Nm := ⟨[("x", .local)], []⟩
noncomputable def b1_law (w : World) : X1 (u0 w) 4 nm_law :=
  (X1.assignComp 1 "cells" (by rfl) ⟨207, 4, 207, 9⟩ ⟨207, 4, 207, 45⟩ (C' := nm_law_c4) 1 [] ((PySem.Expr.BinOp (left := (PySem.Expr.Name "x" ⟨207, 13, 207, 14⟩)) (op := PySem.Operator.Mod) (right := (PySem.Expr.BinOp (left := (PySem.Expr.Constant (PySem.Const.int 10) 0 ⟨207, 17, 207, 19⟩)) (op := PySem.Operator.Pow) (right := (PySem.Expr.Constant (PySem.Const.int 9) 0 ⟨207, 23, 207, 24⟩)) (pos := ⟨207, 17, 207, 24⟩))) (pos := ⟨207, 13, 207, 24⟩))) [] ({ kind := PySem.ScopeKind.function, names := [(PySem.Str.ofString ".0", PySem.NameKind.local), (PySem.Str.ofString "x", PySem.NameKind.local)], isGenerator := false, isCoroutine := false, more := [] : PySem.Scope }) ⟨207, 12, 207, 45⟩ (XG.name 0 "x" .local (by rfl) (by decide) ⟨207, 29, 207, 30⟩) (XE.slice (XE.loc 0 ⟨207, 34, 207, 40⟩ "script" .local (by rfl)) Option.none (some (XE.int 4 0 ⟨207, 42, 207, 43⟩)) Option.none ⟨207, 41, 207, 43⟩ ⟨207, 34, 207, 44⟩) Option.none (XCB.emit (XE.bin .Mod (XE.loc 0 ⟨207, 13, 207, 14⟩ "x" .local (by rfl)) (XE.bin .Pow (XE.int 10 0 ⟨207, 17, 207, 19⟩) (XE.int 9 0 ⟨207, 23, 207, 24⟩) ⟨207, 17, 207, 24⟩) ⟨207, 13, 207, 24⟩)) (CompOK.of (by decide +kernel)) (fun _ _ _ => by rfl) (fun _ _ => rfl) (fun _ _ => rfl) (by rfl) (by decide +kernel))
noncomputable def b2_law (w : World) : X1 (u0 w) 4 nm_law :=
  (X1.assign 1 "cells" .local (by rfl) (by decide) (XE.bin .Add (XE.loc 1 ⟨208, 12, 208, 17⟩ "cells" .local (by rfl)) (XE.slice (XE.list [⟨(XE.int 412 0 ⟨208, 21, 208, 24⟩), rfl⟩, ⟨(XE.int 497 0 ⟨208, 26, 208, 29⟩), rfl⟩, ⟨(XE.int 3 0 ⟨208, 31, 208, 32⟩), rfl⟩, ⟨(XE.int 7 0 ⟨208, 34, 208, 35⟩), rfl⟩] ⟨208, 20, 208, 36⟩ (Nat.le_of_ble_eq_true rfl)) (some (XE.callB "len" (.builtin "len") lenC [⟨(XE.loc 1 ⟨208, 41, 208, 46⟩ "cells" .local (by rfl)), rfl⟩] ⟨208, 37, 208, 40⟩ ⟨208, 37, 208, 47⟩ (by rfl) Keepable.bi (by decide +kernel) (by rfl))) Option.none Option.none ⟨208, 37, 208, 48⟩ ⟨208, 20, 208, 49⟩) ⟨208, 12, 208, 49⟩) ⟨208, 4, 208, 9⟩ ⟨208, 4, 208, 49⟩ (fun _ => rfl))
noncomputable def b_law (w : World) : XS (u0 w) 4 nm_law :=
  (XS.cons
  (b1_law w)
  (XS.cons
  (b2_law w)
  (XS.cons
  (X1.assign 2 "ours" .local (by rfl) (by decide) (XE.call "_law_figures" (.ref 199) ((c_law_figures w).lift (by decide)) [⟨(XE.idx (XE.loc 1 ⟨209, 24, 209, 29⟩ "cells" .local (by rfl)) (XE.int 0 0 ⟨209, 30, 209, 31⟩) ⟨209, 24, 209, 32⟩), rfl⟩] ⟨209, 11, 209, 23⟩ ⟨209, 11, 209, 33⟩ (by rfl) (Keepable.fn (by kernel_rfl)) (by decide +kernel) (by rfl)) ⟨209, 4, 209, 8⟩ ⟨209, 4, 209, 33⟩ (fun _ => rfl))
  (XS.cons
  (X1.assign 3 "theirs" .local (by rfl) (by decide) (XE.call "_law_others" (.ref 206) ((c_law_others w).lift (by decide)) [⟨(XE.loc 2 ⟨210, 25, 210, 29⟩ "ours" .local (by rfl)), rfl⟩, ⟨(XE.idx (XE.loc 1 ⟨210, 31, 210, 36⟩ "cells" .local (by rfl)) (XE.int 1 0 ⟨210, 37, 210, 38⟩) ⟨210, 31, 210, 39⟩), rfl⟩] ⟨210, 13, 210, 24⟩ ⟨210, 13, 210, 40⟩ (by rfl) (Keepable.fn (by kernel_rfl)) (by decide +kernel) (by rfl)) ⟨210, 4, 210, 10⟩ ⟨210, 4, 210, 40⟩ (fun _ => rfl))
  (XS.cons
  (X1.assign 4 "behind" .local (by rfl) (by decide) (XE.bin .Mod (XE.bin .FloorDiv (XE.idx (XE.loc 1 ⟨211, 13, 211, 18⟩ "cells" .local (by rfl)) (XE.int 0 0 ⟨211, 19, 211, 20⟩) ⟨211, 13, 211, 21⟩) (XE.int 216 0 ⟨211, 25, 211, 28⟩) ⟨211, 13, 211, 28⟩) (XE.int 4 0 ⟨211, 31, 211, 32⟩) ⟨211, 13, 211, 32⟩) ⟨211, 4, 211, 10⟩ ⟨211, 4, 211, 32⟩ (fun _ => rfl))
  (XS.cons
  (X1.assign 5 "line" .local (by rfl) (by decide) (XE.call "_law_line" (.ref 211) ((c_law_line w).lift (by decide)) [⟨(XE.loc 3 ⟨212, 21, 212, 27⟩ "theirs" .local (by rfl)), rfl⟩, ⟨(XE.loc 4 ⟨212, 29, 212, 35⟩ "behind" .local (by rfl)), rfl⟩] ⟨212, 11, 212, 20⟩ ⟨212, 11, 212, 36⟩ (by rfl) (Keepable.fn (by kernel_rfl)) (by decide +kernel) (by rfl)) ⟨212, 4, 212, 8⟩ ⟨212, 4, 212, 36⟩ (fun _ => rfl))
  (XS.cons
  (X1.assign 6 "first" .cell (by rfl) (by decide) (XE.call "Whitespace" (.ref 181) ((c_Whitespace w).lift (by decide)) [⟨(XE.call "_law_line" (.ref 211) ((c_law_line w).lift (by decide)) [⟨(XE.loc 2 ⟨213, 33, 213, 37⟩ "ours" .local (by rfl)), rfl⟩, ⟨(XE.loc 4 ⟨213, 39, 213, 45⟩ "behind" .local (by rfl)), rfl⟩] ⟨213, 23, 213, 32⟩ ⟨213, 23, 213, 46⟩ (by rfl) (Keepable.fn (by kernel_rfl)) (by decide +kernel) (by rfl)), rfl⟩] ⟨213, 12, 213, 22⟩ ⟨213, 12, 213, 47⟩ (by rfl) (Keepable.fn (by kernel_rfl)) (by decide +kernel) (by rfl)) ⟨213, 4, 213, 9⟩ ⟨213, 4, 213, 47⟩ (fun _ => rfl))
  (XS.cons
  (X1.assign 7 "second" .cell (by rfl) (by decide) (XE.call "Whitespace" (.ref 181) ((c_Whitespace w).lift (by decide)) [⟨(XE.loc 5 ⟨214, 24, 214, 28⟩ "line" .local (by rfl)), rfl⟩] ⟨214, 13, 214, 23⟩ ⟨214, 13, 214, 29⟩ (by rfl) (Keepable.fn (by kernel_rfl)) (by decide +kernel) (by rfl)) ⟨214, 4, 214, 10⟩ ⟨214, 4, 214, 29⟩ (fun _ => rfl))
  (XS.cons
  (X1.assign 8 "top" .local (by rfl) (by decide) (XE.callB "max" (.builtin "max") maxC [⟨(XE.bin .Add (XE.bin .Add (XE.loc 2 ⟨215, 14, 215, 18⟩ "ours" .local (by rfl)) (XE.loc 3 ⟨215, 21, 215, 27⟩ "theirs" .local (by rfl)) ⟨215, 14, 215, 27⟩) (XE.list [⟨(XE.loc 4 ⟨215, 31, 215, 37⟩ "behind" .local (by rfl)), rfl⟩] ⟨215, 30, 215, 38⟩ (Nat.le_of_ble_eq_true rfl)) ⟨215, 14, 215, 38⟩), rfl⟩] ⟨215, 10, 215, 13⟩ ⟨215, 10, 215, 39⟩ (by rfl) Keepable.bi (by decide +kernel) (by rfl)) ⟨215, 4, 215, 7⟩ ⟨215, 4, 215, 39⟩ (fun _ => rfl))
  (XS.cons
  (X1.ite (XT.cmp .NotEq (XE.callB "max" (.builtin "max") maxC [⟨(XE.meth (XE.loc 6 ⟨216, 11, 216, 16⟩ "first" .cell (by rfl)) 181 "longest_run_of_spaces" 143 ((c_Whitespace_longest_run_of_spaces w).lift (by decide)) [] ⟨216, 11, 216, 38⟩ ⟨216, 11, 216, 40⟩ (ws_ok w) (by kernel_rfl) (by kernel_rfl) (Keepable.fn (by kernel_rfl)) (fun _ => rfl) (Nat.le_of_ble_eq_true rfl) (by rfl)), rfl⟩, ⟨(XE.meth (XE.loc 7 ⟨216, 42, 216, 48⟩ "second" .cell (by rfl)) 181 "longest_run_of_spaces" 143 ((c_Whitespace_longest_run_of_spaces w).lift (by decide)) [] ⟨216, 42, 216, 70⟩ ⟨216, 42, 216, 72⟩ (ws_ok w) (by kernel_rfl) (by kernel_rfl) (Keepable.fn (by kernel_rfl)) (fun _ => rfl) (Nat.le_of_ble_eq_true rfl) (by rfl)), rfl⟩] ⟨216, 7, 216, 10⟩ ⟨216, 7, 216, 73⟩ (by rfl) Keepable.bi (by decide +kernel) (by rfl)) (XE.loc 8 ⟨216, 77, 216, 80⟩ "top" .local (by rfl)) ⟨216, 7, 216, 80⟩ (by rfl)) (XS.cons
   (X1.ret (XE.bool false 0 ⟨217, 15, 217, 20⟩) ⟨217, 8, 217, 20⟩)
   XS.nil) XS.nil ⟨216, 4, 217, 20⟩)
  (XS.cons
  (X1.assignT (XG.tup [⟨(XG.name 9 "row" .local (by rfl) (by decide) ⟨218, 4, 218, 7⟩), rfl⟩, ⟨(XG.name 10 "fresh" .local (by rfl) (by decide) ⟨218, 9, 218, 14⟩), rfl⟩] 0 ⟨218, 4, 218, 14⟩) (XE.call "_law_marks" (.ref 232) ((c_law_marks w).lift (by decide)) [⟨(XE.loc 8 ⟨218, 28, 218, 31⟩ "top" .local (by rfl)), rfl⟩, ⟨(XE.loc 1 ⟨218, 33, 218, 38⟩ "cells" .local (by rfl)), rfl⟩] ⟨218, 17, 218, 27⟩ ⟨218, 17, 218, 39⟩ (by rfl) (Keepable.fn (by kernel_rfl)) (by decide +kernel) (by rfl)) ⟨218, 4, 218, 39⟩ (by rfl) (fun _ => rfl) (fun _ => rfl))
  (XS.cons
  (X1.ite (XT.cmp .NotEq (XE.loc 9 ⟨219, 7, 219, 10⟩ "row" .local (by rfl)) (XE.sortedSet (XE.listComp (C' := nm_law_c3) 2 [] ((PySem.Expr.BinOp (left := (PySem.Expr.BinOp (left := (PySem.Expr.Constant (PySem.Const.int 60) 0 ⟨219, 26, 219, 28⟩)) (op := PySem.Operator.Mult) (right := (PySem.Expr.Name "k" ⟨219, 31, 219, 32⟩)) (pos := ⟨219, 26, 219, 32⟩))) (op := PySem.Operator.FloorDiv) (right := (PySem.Expr.Name "size" ⟨219, 36, 219, 40⟩)) (pos := ⟨219, 26, 219, 40⟩))) [⟨(PySem.Expr.Name "k" ⟨219, 75, 219, 76⟩), (PySem.Expr.Call (func := (PySem.Expr.Name "range" ⟨219, 80, 219, 85⟩)) (args := [(PySem.Expr.Name "size" ⟨219, 86, 219, 90⟩)]) (keywords := []) (pos := ⟨219, 80, 219, 91⟩)), [], 0⟩] ({ kind := PySem.ScopeKind.function, names := [ (PySem.Str.ofString ".0", PySem.NameKind.local), (PySem.Str.ofString "size", PySem.NameKind.local), (PySem.Str.ofString "k", PySem.NameKind.local), (PySem.Str.ofString "range", PySem.NameKind.globalImplicit)], isGenerator := false, isCoroutine := false, more := [] : PySem.Scope }) ⟨219, 25, 219, 92⟩ (XG.name 0 "size" .local (by rfl) (by decide) ⟨219, 45, 219, 49⟩) (XE.callB "range" (.type "range") rangeC [⟨(XE.int 1 0 ⟨219, 59, 219, 60⟩), rfl⟩, ⟨(XE.bin .Add (XE.loc 8 ⟨219, 62, 219, 65⟩ "top" .local (by rfl)) (XE.int 1 0 ⟨219, 68, 219, 69⟩) ⟨219, 62, 219, 69⟩), rfl⟩] ⟨219, 53, 219, 58⟩ ⟨219, 53, 219, 70⟩ (by rfl) Keepable.ty (by decide +kernel) (by rfl)) Option.none (XCB.for_ ((PySem.Expr.BinOp (left := (PySem.Expr.BinOp (left := (PySem.Expr.Constant (PySem.Const.int 60) 0 ⟨219, 26, 219, 28⟩)) (op := PySem.Operator.Mult) (right := (PySem.Expr.Name "k" ⟨219, 31, 219, 32⟩)) (pos := ⟨219, 26, 219, 32⟩))) (op := PySem.Operator.FloorDiv) (right := (PySem.Expr.Name "size" ⟨219, 36, 219, 40⟩)) (pos := ⟨219, 26, 219, 40⟩))) [⟨(PySem.Expr.Name "size" ⟨219, 45, 219, 49⟩), (PySem.Expr.Call (func := (PySem.Expr.Name "range" ⟨219, 53, 219, 58⟩)) (args := [ (PySem.Expr.Constant (PySem.Const.int 1) 0 ⟨219, 59, 219, 60⟩), (PySem.Expr.BinOp (left := (PySem.Expr.Name "top" ⟨219, 62, 219, 65⟩)) (op := PySem.Operator.Add) (right := (PySem.Expr.Constant (PySem.Const.int 1) 0 ⟨219, 68, 219, 69⟩)) (pos := ⟨219, 62, 219, 69⟩))]) (keywords := []) (pos := ⟨219, 53, 219, 70⟩)), [], 0⟩, ⟨(PySem.Expr.Name "k" ⟨219, 75, 219, 76⟩), (PySem.Expr.Call (func := (PySem.Expr.Name "range" ⟨219, 80, 219, 85⟩)) (args := [(PySem.Expr.Name "size" ⟨219, 86, 219, 90⟩)]) (keywords := []) (pos := ⟨219, 80, 219, 91⟩)), [], 0⟩] ({ kind := PySem.ScopeKind.function, names := [ (PySem.Str.ofString ".0", PySem.NameKind.local), (PySem.Str.ofString "size", PySem.NameKind.local), (PySem.Str.ofString "k", PySem.NameKind.local), (PySem.Str.ofString "range", PySem.NameKind.globalImplicit)], isGenerator := false, isCoroutine := false, more := [] : PySem.Scope }) ⟨219, 25, 219, 92⟩ 1 (XG.name 1 "k" .local (by rfl) (by decide) ⟨219, 75, 219, 76⟩) (XE.callB "range" (.type "range") rangeC [⟨(XE.loc 0 ⟨219, 86, 219, 90⟩ "size" .local (by rfl)), rfl⟩] ⟨219, 80, 219, 85⟩ ⟨219, 80, 219, 91⟩ (by rfl) Keepable.ty (by decide +kernel) (by rfl)) Option.none (XCB.emit (XE.bin .FloorDiv (XE.bin .Mult (XE.int 60 0 ⟨219, 26, 219, 28⟩) (XE.loc 1 ⟨219, 31, 219, 32⟩ "k" .local (by rfl)) ⟨219, 26, 219, 32⟩) (XE.loc 0 ⟨219, 36, 219, 40⟩ "size" .local (by rfl)) ⟨219, 26, 219, 40⟩)) (fun _ _ _ => by rfl) (by rfl) (fun _ _ => rfl) (fun _ _ => rfl)) (CompOK.of (by decide +kernel)) (fun it acc env => turn2 _ _ _ _ _ _ _ _ _ it acc env) (fun _ _ => rfl) (fun _ _ => rfl)) rfl ⟨219, 14, 219, 20⟩ ⟨219, 21, 219, 24⟩ ⟨219, 21, 219, 93⟩ ⟨219, 14, 219, 94⟩ (by rfl) (by rfl) (by decide +kernel) (by decide +kernel)) ⟨219, 7, 219, 94⟩ (by rfl)) (XS.cons
   (X1.ret (XE.bool false 0 ⟨220, 15, 220, 20⟩) ⟨220, 8, 220, 20⟩)
   XS.nil) XS.nil ⟨219, 4, 220, 20⟩)
  (XS.cons
  (X1.assign 12 "heft" .local (by rfl) (by decide) (XE.int 0 0 ⟨221, 11, 221, 12⟩) ⟨221, 4, 221, 8⟩ ⟨221, 4, 221, 12⟩ (fun _ => rfl))
  (XS.cons
  (X1.for_ (XG.name 11 "size" .local (by rfl) (by decide) ⟨222, 8, 222, 12⟩) (fun _ _ => rfl) (XE.callB "range" (.type "range") rangeC [⟨(XE.int 1 0 ⟨222, 22, 222, 23⟩), rfl⟩, ⟨(XE.bin .Add (XE.loc 8 ⟨222, 25, 222, 28⟩ "top" .local (by rfl)) (XE.int 1 0 ⟨222, 31, 222, 32⟩) ⟨222, 25, 222, 32⟩), rfl⟩] ⟨222, 16, 222, 21⟩ ⟨222, 16, 222, 33⟩ (by rfl) Keepable.ty (by decide +kernel) (by rfl)) (XS.cons
   (X1.assignT (XG.tup [⟨(XG.name 13 "whole" .local (by rfl) (by decide) ⟨223, 8, 223, 13⟩), rfl⟩, ⟨(XG.name 14 "over" .local (by rfl) (by decide) ⟨223, 15, 223, 19⟩), rfl⟩] 0 ⟨223, 8, 223, 19⟩) (XE.callB "divmod" (.builtin "divmod") divmodC [⟨(XE.bin .Sub (XE.meth (XE.loc 6 ⟨223, 29, 223, 34⟩ "first" .cell (by rfl)) 181 "indent_level" 150 ((c_Whitespace_indent_level w).lift (by decide)) [⟨(XE.loc 11 ⟨223, 48, 223, 52⟩ "size" .local (by rfl)), rfl⟩] ⟨223, 29, 223, 47⟩ ⟨223, 29, 223, 53⟩ (ws_ok w) (by kernel_rfl) (by kernel_rfl) (Keepable.fn (by kernel_rfl)) (fun _ => rfl) (Nat.le_of_ble_eq_true rfl) (by rfl)) (XE.loc 4 ⟨223, 56, 223, 62⟩ "behind" .local (by rfl)) ⟨223, 29, 223, 62⟩), rfl⟩, ⟨(XE.loc 11 ⟨223, 64, 223, 68⟩ "size" .local (by rfl)), rfl⟩] ⟨223, 22, 223, 28⟩ ⟨223, 22, 223, 69⟩ (by rfl) Keepable.bi (by decide +kernel) (by rfl)) ⟨223, 8, 223, 69⟩ (by rfl) (fun _ => rfl) (fun _ => rfl))
   (XS.cons
   (X1.ite (XT.cmp .NotEq (XE.loc 14 ⟨224, 11, 224, 15⟩ "over" .local (by rfl)) (XE.int 0 0 ⟨224, 19, 224, 20⟩) ⟨224, 11, 224, 20⟩ (by rfl)) (XS.cons
    (X1.ret (XE.bool false 0 ⟨225, 19, 225, 24⟩) ⟨225, 12, 225, 24⟩)
    XS.nil) XS.nil ⟨224, 8, 225, 24⟩)
   (XS.cons
   (X1.assign 12 "heft" .local (by rfl) (by decide) (XE.bin .Add (XE.loc 12 ⟨226, 15, 226, 19⟩ "heft" .local (by rfl)) (XE.bin .Mult (XE.idx (XE.loc 10 ⟨226, 22, 226, 27⟩ "fresh" .local (by rfl)) (XE.bin .Sub (XE.loc 11 ⟨226, 28, 226, 32⟩ "size" .local (by rfl)) (XE.int 1 0 ⟨226, 35, 226, 36⟩) ⟨226, 28, 226, 36⟩) ⟨226, 22, 226, 37⟩) (XE.bin .Sub (XE.loc 13 ⟨226, 41, 226, 46⟩ "whole" .local (by rfl)) (XE.int 3 0 ⟨226, 49, 226, 50⟩) ⟨226, 41, 226, 50⟩) ⟨226, 22, 226, 51⟩) ⟨226, 15, 226, 51⟩) ⟨226, 8, 226, 12⟩ ⟨226, 8, 226, 51⟩ (fun _ => rfl))
   XS.nil))) ⟨222, 4, 226, 51⟩ (fun _ _ => rfl))
  (XS.cons
  (X1.ite (XT.cmp .NotEq (XE.loc 12 ⟨227, 7, 227, 11⟩ "heft" .local (by rfl)) (XE.call "_law_heft" (.ref 239) ((c_law_heft w).lift (by decide)) [⟨(XE.loc 2 ⟨227, 25, 227, 29⟩ "ours" .local (by rfl)), rfl⟩, ⟨(XE.loc 1 ⟨227, 31, 227, 36⟩ "cells" .local (by rfl)), rfl⟩] ⟨227, 15, 227, 24⟩ ⟨227, 15, 227, 37⟩ (by rfl) (Keepable.fn (by kernel_rfl)) (by decide +kernel) (by rfl)) ⟨227, 7, 227, 37⟩ (by rfl)) (XS.cons
   (X1.ret (XE.bool false 0 ⟨228, 15, 228, 20⟩) ⟨228, 8, 228, 20⟩)
   XS.nil) XS.nil ⟨227, 4, 228, 20⟩)
  (XS.cons
  (X1.assignOwn 15 "sizes" .local (by rfl) (by decide) [] (Nat.le_of_ble_eq_true rfl) ⟨229, 12, 229, 14⟩ ⟨229, 4, 229, 9⟩ ⟨229, 4, 229, 14⟩)
  (XS.cons
  (X1.for_ (XG.name 11 "size" .local (by rfl) (by decide) ⟨230, 8, 230, 12⟩) (fun _ _ => rfl) (XE.callB "range" (.type "range") rangeC [⟨(XE.int 1 0 ⟨230, 22, 230, 23⟩), rfl⟩, ⟨(XE.bin .Add (XE.loc 8 ⟨230, 25, 230, 28⟩ "top" .local (by rfl)) (XE.int 1 0 ⟨230, 31, 230, 32⟩) ⟨230, 25, 230, 32⟩), rfl⟩] ⟨230, 16, 230, 21⟩ ⟨230, 16, 230, 33⟩ (by rfl) Keepable.ty (by decide +kernel) (by rfl)) (XS.cons
   (X1.ite (XT.cmp .NotEq (XE.call "_law_wholes" (.ref 244) ((c_law_wholes w).lift (by decide)) [⟨(XE.loc 2 ⟨231, 23, 231, 27⟩ "ours" .local (by rfl)), rfl⟩, ⟨(XE.loc 11 ⟨231, 29, 231, 33⟩ "size" .local (by rfl)), rfl⟩] ⟨231, 11, 231, 22⟩ ⟨231, 11, 231, 34⟩ (by rfl) (Keepable.fn (by kernel_rfl)) (by decide +kernel) (by rfl)) (XE.call "_law_wholes" (.ref 244) ((c_law_wholes w).lift (by decide)) [⟨(XE.loc 3 ⟨231, 50, 231, 56⟩ "theirs" .local (by rfl)), rfl⟩, ⟨(XE.loc 11 ⟨231, 58, 231, 62⟩ "size" .local (by rfl)), rfl⟩] ⟨231, 38, 231, 49⟩ ⟨231, 38, 231, 63⟩ (by rfl) (Keepable.fn (by kernel_rfl)) (by decide +kernel) (by rfl)) ⟨231, 11, 231, 63⟩ (by rfl)) (XS.cons
    (X1.app 15 "sizes" .local (by rfl) ⟨(XE.loc 11 ⟨232, 25, 232, 29⟩ "size" .local (by rfl)), rfl⟩ ⟨232, 12, 232, 17⟩ ⟨232, 12, 232, 24⟩ ⟨232, 12, 232, 30⟩ ⟨232, 12, 232, 30⟩ (by rfl))
    XS.nil) XS.nil ⟨231, 8, 232, 30⟩)
   XS.nil) ⟨230, 4, 232, 30⟩ (fun _ _ => rfl))
  (XS.cons
  (X1.assign 16 "witness" .local (by rfl) (by decide) (XE.meth (XE.loc 6 ⟨233, 14, 233, 19⟩ "first" .cell (by rfl)) 181 "not_equal_witness" 164 ((c_Whitespace_not_equal_witness w).lift (by decide)) [⟨(XE.loc 7 ⟨233, 38, 233, 44⟩ "second" .cell (by rfl)), rfl⟩] ⟨233, 14, 233, 37⟩ ⟨233, 14, 233, 45⟩ (ws_ok w) (by kernel_rfl) (by kernel_rfl) (Keepable.fn (by kernel_rfl)) (fun _ => rfl) (Nat.le_of_ble_eq_true rfl) (by rfl)) ⟨233, 4, 233, 11⟩ ⟨233, 4, 233, 45⟩ (fun _ => rfl))
  (XS.cons
  (X1.ite (XT.cmp .NotEq (XE.loc 16 ⟨234, 7, 234, 14⟩ "witness" .local (by rfl)) (XE.listComp (C' := nm_law_c2) 1 [6, 7] ((PySem.Expr.Tuple (elts := [ (PySem.Expr.Name "size" ⟨234, 20, 234, 24⟩), (PySem.Expr.Call (func := (PySem.Expr.Attribute (PySem.Expr.Name "first" ⟨234, 26, 234, 31⟩) "indent_level" ⟨234, 26, 234, 44⟩)) (args := [(PySem.Expr.Name "size" ⟨234, 45, 234, 49⟩)]) (keywords := []) (pos := ⟨234, 26, 234, 50⟩)), (PySem.Expr.Call (func := (PySem.Expr.Attribute (PySem.Expr.Name "second" ⟨234, 52, 234, 58⟩) "indent_level" ⟨234, 52, 234, 71⟩)) (args := [(PySem.Expr.Name "size" ⟨234, 72, 234, 76⟩)]) (keywords := []) (pos := ⟨234, 52, 234, 77⟩))]) (k := 0) (pos := ⟨234, 19, 234, 78⟩))) [] ({ kind := PySem.ScopeKind.function, names := [ (PySem.Str.ofString ".0", PySem.NameKind.local), (PySem.Str.ofString "size", PySem.NameKind.local), (PySem.Str.ofString "first", PySem.NameKind.free), (PySem.Str.ofString "second", PySem.NameKind.free)], isGenerator := false, isCoroutine := false, more := [] : PySem.Scope }) ⟨234, 18, 234, 97⟩ (XG.name 0 "size" .local (by rfl) (by decide) ⟨234, 83, 234, 87⟩) (XE.loc 15 ⟨234, 91, 234, 96⟩ "sizes" .local (by rfl)) Option.none (XCB.emit (XE.tup [⟨(XE.loc 0 ⟨234, 20, 234, 24⟩ "size" .local (by rfl)), rfl⟩, ⟨(XE.meth (XE.loc 1 ⟨234, 26, 234, 31⟩ "first" .free (by rfl)) 181 "indent_level" 150 ((c_Whitespace_indent_level w).lift (by decide)) [⟨(XE.loc 0 ⟨234, 45, 234, 49⟩ "size" .local (by rfl)), rfl⟩] ⟨234, 26, 234, 44⟩ ⟨234, 26, 234, 50⟩ (ws_ok w) (by kernel_rfl) (by kernel_rfl) (Keepable.fn (by kernel_rfl)) (fun _ => rfl) (Nat.le_of_ble_eq_true rfl) (by rfl)), rfl⟩, ⟨(XE.meth (XE.loc 2 ⟨234, 52, 234, 58⟩ "second" .free (by rfl)) 181 "indent_level" 150 ((c_Whitespace_indent_level w).lift (by decide)) [⟨(XE.loc 0 ⟨234, 72, 234, 76⟩ "size" .local (by rfl)), rfl⟩] ⟨234, 52, 234, 71⟩ ⟨234, 52, 234, 77⟩ (ws_ok w) (by kernel_rfl) (by kernel_rfl) (Keepable.fn (by kernel_rfl)) (fun _ => rfl) (Nat.le_of_ble_eq_true rfl) (by rfl)), rfl⟩] 0 ⟨234, 19, 234, 78⟩ (Nat.le_of_ble_eq_true rfl))) (CompOK.of (by decide +kernel)) (fun _ _ _ => by rfl) (fun _ _ => rfl) (fun _ _ => rfl)) ⟨234, 7, 234, 97⟩ (by rfl)) (XS.cons
   (X1.ret (XE.bool false 0 ⟨235, 15, 235, 20⟩) ⟨235, 8, 235, 20⟩)
   XS.nil) XS.nil ⟨234, 4, 235, 20⟩)
  (XS.cons
  (X1.assign 17 "gain" .local (by rfl) (by decide) (XE.int 0 0 ⟨236, 11, 236, 12⟩) ⟨236, 4, 236, 8⟩ ⟨236, 4, 236, 12⟩ (fun _ => rfl))
  (XS.cons
  (X1.forT (XG.tup [⟨(XG.name 11 "size" .local (by rfl) (by decide) ⟨237, 8, 237, 12⟩), rfl⟩, ⟨(XG.name 18 "far" .local (by rfl) (by decide) ⟨237, 14, 237, 17⟩), rfl⟩, ⟨(XG.name 19 "near" .local (by rfl) (by decide) ⟨237, 19, 237, 23⟩), rfl⟩] 0 ⟨237, 8, 237, 23⟩) [(PySem.Expr.Name "size" ⟨237, 8, 237, 12⟩), (PySem.Expr.Name "far" ⟨237, 14, 237, 17⟩), (PySem.Expr.Name "near" ⟨237, 19, 237, 23⟩)] 0 ⟨237, 8, 237, 23⟩ rfl (XE.loc 16 ⟨237, 27, 237, 34⟩ "witness" .local (by rfl)) (XS.cons
   (X1.assignT (XG.tup [⟨(XG.name 20 "steps" .local (by rfl) (by decide) ⟨238, 8, 238, 13⟩), rfl⟩, ⟨(XG.name 14 "over" .local (by rfl) (by decide) ⟨238, 15, 238, 19⟩), rfl⟩] 0 ⟨238, 8, 238, 19⟩) (XE.callB "divmod" (.builtin "divmod") divmodC [⟨(XE.bin .Sub (XE.loc 18 ⟨238, 29, 238, 32⟩ "far" .local (by rfl)) (XE.loc 19 ⟨238, 35, 238, 39⟩ "near" .local (by rfl)) ⟨238, 29, 238, 39⟩), rfl⟩, ⟨(XE.loc 11 ⟨238, 41, 238, 45⟩ "size" .local (by rfl)), rfl⟩] ⟨238, 22, 238, 28⟩ ⟨238, 22, 238, 46⟩ (by rfl) Keepable.bi (by decide +kernel) (by rfl)) ⟨238, 8, 238, 46⟩ (by rfl) (fun _ => rfl) (fun _ => rfl))
   (XS.cons
   (X1.ite (XT.cmp .NotEq (XE.loc 14 ⟨239, 11, 239, 15⟩ "over" .local (by rfl)) (XE.int 0 0 ⟨239, 19, 239, 20⟩) ⟨239, 11, 239, 20⟩ (by rfl)) (XS.cons
    (X1.ret (XE.bool false 0 ⟨240, 19, 240, 24⟩) ⟨240, 12, 240, 24⟩)
    XS.nil) XS.nil ⟨239, 8, 240, 24⟩)
   (XS.cons
   (X1.assign 17 "gain" .local (by rfl) (by decide) (XE.bin .Add (XE.loc 17 ⟨241, 15, 241, 19⟩ "gain" .local (by rfl)) (XE.bin .Mult (XE.idx (XE.loc 10 ⟨241, 22, 241, 27⟩ "fresh" .local (by rfl)) (XE.bin .Sub (XE.loc 11 ⟨241, 28, 241, 32⟩ "size" .local (by rfl)) (XE.int 1 0 ⟨241, 35, 241, 36⟩) ⟨241, 28, 241, 36⟩) ⟨241, 22, 241, 37⟩) (XE.loc 20 ⟨241, 40, 241, 45⟩ "steps" .local (by rfl)) ⟨241, 22, 241, 45⟩) ⟨241, 15, 241, 45⟩) ⟨241, 8, 241, 12⟩ ⟨241, 8, 241, 45⟩ (fun _ => rfl))
   XS.nil))) ⟨237, 4, 241, 45⟩ (fun _ _ => rfl))
  (XS.cons
  (X1.ite (XT.cmp .NotEq (XE.loc 17 ⟨242, 7, 242, 11⟩ "gain" .local (by rfl)) (XE.bin .Sub (XE.loc 12 ⟨242, 15, 242, 19⟩ "heft" .local (by rfl)) (XE.call "_law_heft" (.ref 239) ((c_law_heft w).lift (by decide)) [⟨(XE.loc 3 ⟨242, 32, 242, 38⟩ "theirs" .local (by rfl)), rfl⟩, ⟨(XE.loc 1 ⟨242, 40, 242, 45⟩ "cells" .local (by rfl)), rfl⟩] ⟨242, 22, 242, 31⟩ ⟨242, 22, 242, 46⟩ (by rfl) (Keepable.fn (by kernel_rfl)) (by decide +kernel) (by rfl)) ⟨242, 15, 242, 46⟩) ⟨242, 7, 242, 46⟩ (by rfl)) (XS.cons
   (X1.ret (XE.bool false 0 ⟨243, 15, 243, 20⟩) ⟨243, 8, 243, 20⟩)
   XS.nil) XS.nil ⟨242, 4, 243, 20⟩)
  (XS.cons
  (X1.assign 21 "due" .local (by rfl) (by decide) (XE.list [] ⟨244, 10, 244, 12⟩ (Nat.le_of_ble_eq_true rfl)) ⟨244, 4, 244, 7⟩ ⟨244, 4, 244, 12⟩ (fun _ => rfl))
  (XS.cons
  (X1.ite (XT.cmp .NotEq (XE.callB "sorted" (.builtin "sorted") sortedC [⟨(XE.loc 2 ⟨245, 14, 245, 18⟩ "ours" .local (by rfl)), rfl⟩] ⟨245, 7, 245, 13⟩ ⟨245, 7, 245, 19⟩ (by rfl) Keepable.bi (by decide +kernel) (by rfl)) (XE.callB "sorted" (.builtin "sorted") sortedC [⟨(XE.loc 3 ⟨245, 30, 245, 36⟩ "theirs" .local (by rfl)), rfl⟩] ⟨245, 23, 245, 29⟩ ⟨245, 23, 245, 37⟩ (by rfl) Keepable.bi (by decide +kernel) (by rfl)) ⟨245, 7, 245, 37⟩ (by rfl)) (XS.cons
   (X1.assign 22 "words" .local (by rfl) (by decide) (XE.bin .Add (XE.bin .Add (XE.str "indent not equal e.g. at tab size" 0 ⟨246, 16, 246, 51⟩) (XE.ifx (XT.cmp .Gt (XE.callB "len" (.builtin "len") lenC [⟨(XE.loc 15 ⟨246, 66, 246, 71⟩ "sizes" .local (by rfl)), rfl⟩] ⟨246, 62, 246, 65⟩ ⟨246, 62, 246, 72⟩ (by rfl) Keepable.bi (by decide +kernel) (by rfl)) (XE.int 1 0 ⟨246, 75, 246, 76⟩) ⟨246, 62, 246, 76⟩ (by rfl)) (XE.str "s" 0 ⟨246, 55, 246, 58⟩) (XE.str "" 0 ⟨246, 82, 246, 84⟩) ⟨246, 55, 246, 84⟩) ⟨246, 16, 246, 85⟩) (XE.str " " 0 ⟨246, 88, 246, 91⟩) ⟨246, 16, 246, 91⟩) ⟨246, 8, 246, 13⟩ ⟨246, 8, 246, 91⟩ (fun _ => rfl))
   (XS.cons
   (X1.assign 21 "due" .local (by rfl) (by decide) (XE.list [⟨(XE.idx (XE.loc 1 ⟨247, 15, 247, 20⟩ "cells" .local (by rfl)) (XE.int 3 0 ⟨247, 21, 247, 22⟩) ⟨247, 15, 247, 23⟩), rfl⟩, ⟨(XE.bin .Add (XE.loc 22 ⟨247, 25, 247, 30⟩ "words" .local (by rfl)) (XE.join (XE.str ", " 0 ⟨247, 33, 247, 37⟩) [⟨(XE.listComp (C' := nm_law_c1) 1 [] ((PySem.Expr.Call (func := (PySem.Expr.Name "str" ⟨247, 44, 247, 47⟩)) (args := [(PySem.Expr.Name "size" ⟨247, 48, 247, 52⟩)]) (keywords := []) (pos := ⟨247, 44, 247, 53⟩))) [] ({ kind := PySem.ScopeKind.function, names := [ (PySem.Str.ofString ".0", PySem.NameKind.local), (PySem.Str.ofString "size", PySem.NameKind.local), (PySem.Str.ofString "str", PySem.NameKind.globalImplicit)], isGenerator := false, isCoroutine := false, more := [] : PySem.Scope }) ⟨247, 43, 247, 72⟩ (XG.name 0 "size" .local (by rfl) (by decide) ⟨247, 58, 247, 62⟩) (XE.loc 15 ⟨247, 66, 247, 71⟩ "sizes" .local (by rfl)) Option.none (XCB.emit (XE.callB "str" (.type "str") strC [⟨(XE.loc 0 ⟨247, 48, 247, 52⟩ "size" .local (by rfl)), rfl⟩] ⟨247, 44, 247, 47⟩ ⟨247, 44, 247, 53⟩ (by rfl) Keepable.ty (by decide +kernel) (by rfl))) (CompOK.of (by decide +kernel)) (fun _ _ _ => by rfl) (fun _ _ => rfl) (fun _ _ => rfl)), rfl⟩] ⟨247, 33, 247, 42⟩ ⟨247, 33, 247, 73⟩ (fun _ => rfl) (Nat.le_of_ble_eq_true rfl) (by rfl)) ⟨247, 25, 247, 73⟩), rfl⟩, ⟨(XE.loc 5 ⟨247, 75, 247, 79⟩ "line" .local (by rfl)), rfl⟩] ⟨247, 14, 247, 80⟩ (Nat.le_of_ble_eq_true rfl)) ⟨247, 8, 247, 11⟩ ⟨247, 8, 247, 80⟩ (fun _ => rfl))
   XS.nil)) XS.nil ⟨245, 4, 247, 80⟩)
  XS.nil))))))))))))))))))))))))
section
variable {u : U} {n : Nat} {C : Nm}
theorem cons_den {x : X1 u n C} {xs : XS u n C} {σ σ1 : List SV} {r : Option (Fl × List SV)} (h : x.den σ = some (.next, σ1)) (h2 : xs.den σ1 = r) : (XS.cons x xs).den σ = r := by
  show (match x.den σ with
    | some (Fl.next, σ') => xs.den σ'
    | x => x) = r
  rw [h]; exact h2
theorem cons_stop {x : X1 u n C} {xs : XS u n C} {σ σ1 : List SV} {v : V} (h : x.den σ = some (.ret v, σ1)) : (XS.cons x xs).den σ = some (.ret v, σ1) := by
  show (match x.den σ with
    | some (Fl.next, σ') => xs.den σ'
    | x => x) = _
  rw [h]
theorem nil_den {σ : List SV} : (XS.nil : XS u n C).den σ = some (.next, σ) := rfl
theorem assign_den {i : Nat} {x : Str} {k : NameKind} {hx : C.slots[i]? = some (x, k)} {hk : k ≠ .free} {a : XE u n C} {p1 p : Pos} {hsw} {σ : List SV} {v : V} (h : a.den σ = some (v, false)) : (X1.assign i x k hx hk a p1 p hsw).den σ = some (.next, σ.set i (.val v)) := by
  show (match a.den σ with
    | some (v, false) => some (Fl.next, σ.set i (SV.val v))
    | some (v, true) => if v.flat then some (Fl.next, σ.set i (SV.val v)) else none
    | none => none) = _
  rw [h]
theorem assign_den' {i : Nat} {x : Str} {k : NameKind} {hx : C.slots[i]? = some (x, k)} {hk : k ≠ .free} {a : XE u n C} {p1 p : Pos} {hsw} {σ : List SV} {v : V} {b : Bool} (h : a.den σ = some (v, b)) (f : v.flat = true) : (X1.assign i x k hx hk a p1 p hsw).den σ = some (.next, σ.set i (.val v)) := by
  cases b with
  | false => exact assign_den h
  | true =>
    show (match a.den σ with
      | some (v, false) => some (Fl.next, σ.set i (SV.val v))
      | some (v, true) => if v.flat then some (Fl.next, σ.set i (SV.val v)) else none
      | none => none) = _
    rw [h]; simp only [f, if_true]
theorem assignT_den {g : XG u n C} {a : XE u n C} {p : Pos} {hns} {h1} {h2} {σ σ' : List SV} {v : V} (h : a.den σ = some (v, false)) (hg : g.den v σ = some σ') : (X1.assignT g a p hns h1 h2).den σ = some (.next, σ') := by
  show (match a.den σ with
    | some (v, false) => match g.den v σ with
      | some σ' => some (Fl.next, σ')
      | none => none
    | _ => none) = _
  rw [h]; dsimp only; rw [hg]
theorem ret_den {a : XE u n C} {p : Pos} {σ : List SV} {v : V} {b : Bool} (h : a.den σ = some (v, b)) : (X1.ret a p).den σ = some (.ret v, σ) := by
  show (match a.den σ with
    | some (v, _) => some (Fl.ret v, σ)
    | none => none) = _
  rw [h]
theorem ite_den {t : XT u n C} {a b : XS u n C} {p : Pos} {σ : List SV} {c : Bool} {r : Option (Fl × List SV)} (h : t.den σ = some c) (h2 : (if c = true then a.den σ else b.den σ) = r) : (X1.ite t a b p).den σ = r := by
  show (match t.den σ with
    | some true => a.den σ
    | some false => b.den σ
    | none => none) = r
  rw [h]; cases (c) <;> exact h2
theorem for_den {g : XG u n C} {hg} {a : XE u n C} {body : XS u n C} {p : Pos} {hs} {σ : List SV} {v : V} {xs : List V} {r : Option (Fl × List SV)} (h : a.den σ = some (v, false)) (hx : iterV v = some xs) (h2 : loopD g.den body.den xs σ = r) : (X1.for_ g hg a body p hs).den σ = r := by
  show (match a.den σ with
    | some (v, false) => match iterV v with
      | some xs => loopD g.den body.den xs σ
      | none => none
    | _ => none) = r
  rw [h]; dsimp only; rw [hx]; exact h2
theorem forT_den {g : XG u n C} {elts x1 pos hg} {a : XE u n C} {body : XS u n C} {p : Pos} {hs} {σ : List SV} {xs : List V} {r : Option (Fl × List SV)} (h : a.den σ = some (.list xs, false)) (hc : (lenOk xs.length && xs.all (fun x => match x with | .tup _ => true | _ => false)) = true) (h2 : loopD g.den body.den xs σ = r) : (X1.forT g elts x1 pos hg a body p hs).den σ = r := by
  show (match a.den σ with
    | some (.list xs, false) => if lenOk xs.length && xs.all (fun x => match x with | .tup _ => true | _ => false) then loopD g.den body.den xs σ else none
    | _ => none) = r
  rw [h]; dsimp only; rw [hc]; exact h2
theorem call_den {x : Str} {f : Value} {co : Co u n f} {es : List (XA u n C)} {np p : Pos} {e} {hk} {hx} {hd} {σ : List SV} {vs : List V} {b : Bool} {r : V} (h : denL es σ = some (vs, b)) (h2 : co.den vs = some r) : (XE.call x f co es np p e hk hx hd).den σ = some (r, b) := by
  show (match denL es σ with
    | none => none
    | some (vs, b) => match co.den vs with
      | none => none
      | some r => some (r, b)) = _
  rw [h]; dsimp only; rw [h2]
theorem callB_den {x : Str} {f : Value} {co : Co u n f} {es : List (XA u n C)} {np p : Pos} {e} {hk} {hx} {hd} {σ : List SV} {vs : List V} {b : Bool} {r : V} (h : denL es σ = some (vs, b)) (h2 : co.den vs = some r) : (XE.callB x f co es np p e hk hx hd).den σ = some (r, b) := by
  show (match denL es σ with
    | none => none
    | some (vs, b) => match co.den vs with
      | none => none
      | some r => some (r, b)) = _
  rw [h]; dsimp only; rw [h2]
theorem bin_den {op : Operator} {a b : XE u n C} {p : Pos} {σ : List SV} {x y z : V} {f g : Bool} (h1 : a.den σ = some (x, f)) (h2 : b.den σ = some (y, g)) (h3 : binop op x y = some z) : (XE.bin op a b p).den σ = some (z, f || g) := by
  show (match a.den σ with
    | none => none
    | some (x, f) => match b.den σ with
      | none => none
      | some (y, g) => match binop op x y with
        | none => none
        | some z => some (z, f || g)) = _
  rw [h1]; dsimp only; rw [h2]; dsimp only; rw [h3]
theorem cmpT_den {op : CmpOp} {a b : XE u n C} {p : Pos} {hm} {σ : List SV} {x y : V} {f g : Bool} {r : Option Bool} (h1 : a.den σ = some (x, f)) (h2 : b.den σ = some (y, g)) (h3 : cmpop op x y = r) : (XT.cmp op a b p hm).den σ = r := by
  show (match a.den σ with
    | none => none
    | some (x, _) => match b.den σ with
      | none => none
      | some (y, _) => cmpop op x y) = _
  rw [h1]; dsimp only; rw [h2]; exact h3
noncomputable def turnD (g : V → List SV → Option (List SV)) (body : List SV → Option (Fl × List SV)) (x : V) (σ : List SV) : Option (Fl × List SV) := match g x σ with
  | none => none
  | some σ₀ => body σ₀
theorem loop_next {g : V → List SV → Option (List SV)} {body : List SV → Option (Fl × List SV)} {x : V} {xs : List V} {σ σ' : List SV} {r : Option (Fl × List SV)} (h : turnD g body x σ = some (.next, σ')) (h2 : loopD g body xs σ' = r) : loopD g body (x :: xs) σ = r := by
  unfold loopD
  unfold turnD at h
  (refine Classical.byContradiction fun hnn => ?_; split at (h) <;> (refine hnn ?_; clear hnn))
  · exact nn0 h
  · rename_i σ₀ e
    rw [e]; dsimp only; rw [h]; exact h2
noncomputable def Rets (x : Option (Fl × List SV)) (v : V) : Prop := ∃ σ', x = some (Fl.ret v, σ')
noncomputable def Goes (x : Option (Fl × List SV)) (P : List SV → Prop) : Prop := ∃ σ', x = some (Fl.next, σ') ∧ P σ'
theorem ofDef0_den {fa : Addr} {na : Nat} {body : XS u n C} {h hl hb} {args : List V} {v : V} (hn : args.length = na) (hr : Rets (body.den (sigma C args)) v) : (Co.ofDef0 (fa := fa) na body h hl hb).den args = some v := by
  have z1 := hr; clear hr; refine sE z1 fun σ' hr => ?_; clear z1
  show (if args.length = na then retOf (body.den (sigma C (args ++ []))) else none) = _
  rw [if_pos hn, List.append_nil, hr]; rfl
theorem cons_rets {x : X1 u n C} {xs : XS u n C} {σ σ1 : List SV} {v : V} (h : x.den σ = some (.next, σ1)) (h2 : Rets (xs.den σ1) v) : Rets ((XS.cons x xs).den σ) v := by
  have z2 := h2; clear h2; refine sE z2 fun σ' h2 => ?_; clear z2
  exact ⟨σ', cons_den h h2⟩
theorem cons_goes {x : X1 u n C} {xs : XS u n C} {σ : List SV} {v : V} {P : List SV → Prop} (h : Goes (x.den σ) P) (h2 : ∀ σ1, P σ1 → Rets (xs.den σ1) v) : Rets ((XS.cons x xs).den σ) v := by
  have z3 := h; clear h; refine sEA z3 fun σ1 h p => ?_; clear z3
  exact cons_rets h (h2 σ1 p)
theorem cons_goes2 {x : X1 u n C} {xs : XS u n C} {σ : List SV} {P Q : List SV → Prop} (h : Goes (x.den σ) P) (h2 : ∀ σ1, P σ1 → Goes (xs.den σ1) Q) : Goes ((XS.cons x xs).den σ) Q := by
  have z4 := h; clear h; refine sEA z4 fun σ1 h p => ?_; clear z4
  refine sEA (h2 σ1 p) fun σ2 h2 q => ?_
  exact ⟨σ2, cons_den h h2, q⟩
theorem goes {x : Option (Fl × List SV)} {σ1 : List SV} {P : List SV → Prop} (h : x = some (.next, σ1)) (p : P σ1) : Goes x P := ⟨σ1, h, p⟩
theorem cons_step {x : X1 u n C} {xs : XS u n C} {σ : List SV} (σ1 : List SV) {Q : List SV → Prop} (h : x.den σ = some (.next, σ1)) (h2 : Goes (xs.den σ1) Q) : Goes ((XS.cons x xs).den σ) Q := cons_goes2 (P := fun σ => σ = σ1) ⟨σ1, h, rfl⟩ (fun _ e => e ▸ h2)
theorem nil_goes {σ : List SV} {P : List SV → Prop} (p : P σ) : Goes ((XS.nil : XS u n C).den σ) P := ⟨σ, rfl, p⟩
theorem ret_rets {a : XE u n C} {p : Pos} {xs : XS u n C} {σ : List SV} {v : V} {b : Bool} (h : a.den σ = some (v, b)) : Rets ((XS.cons (X1.ret a p) xs).den σ) v := ⟨σ, cons_stop (ret_den h)⟩
theorem for_goes {g : XG u n C} {hg} {a : XE u n C} {body : XS u n C} {p : Pos} {hs} {σ : List SV} {v : V} {xs : List V} {P : List SV → Prop} (h : a.den σ = some (v, false)) (hx : iterV v = some xs) (h2 : Goes (loopD g.den body.den xs σ) P) : Goes ((X1.for_ g hg a body p hs).den σ) P := by
  have z5 := h2; clear h2; refine sEA z5 fun σ1 h2 q => ?_; clear z5
  exact ⟨σ1, for_den h hx h2, q⟩
theorem loop_goes {g : V → List SV → Option (List SV)} {body : List SV → Option (Fl × List SV)} {x : V} {xs : List V} {σ : List SV} {P Q : List SV → Prop} (h : Goes (turnD g body x σ) Q) (h2 : ∀ σ1, Q σ1 → Goes (loopD g body xs σ1) P) : Goes (loopD g body (x :: xs) σ) P := by
  have z8 := h; clear h; refine sEA z8 fun σ1 h q => ?_; clear z8
  refine sEA (h2 σ1 q) fun σ2 h2 p => ?_
  exact ⟨σ2, loop_next h h2, p⟩
theorem loop_done {g : V → List SV → Option (List SV)} {body : List SV → Option (Fl × List SV)} {σ : List SV} {P : List SV → Prop} (p : P σ) : Goes (loopD g body [] σ) P := ⟨σ, rfl, p⟩
theorem Goes.imp {x : Option (Fl × List SV)} {P Q : List SV → Prop} (h : Goes x P) (k : ∀ σ, P σ → Q σ) : Goes x Q := by
  have z9 := h; clear h; refine sEA z9 fun σ h p => ?_; clear z9
  exact ⟨σ, h, k σ p⟩
theorem loc_den {i : Nat} {p : Pos} {x : Str} {k : NameKind} {hx : C.slots[i]? = some (x, k)} {σ : List SV} {v : V} (h : σ[i]? = some (.val v)) : (XE.loc (u := u) (n := n) i p x k hx).den σ = some (v, false) := by
  simp only [XE.loc, h]
end
noncomputable def wt (c0 c1 c2 c3 : Int) (m : Int) : Int := (match m.toNat % 4 with
  | 0 => c0
  | 1 => c1
  | 2 => c2
  | _ => c3) + m * m
noncomputable def ptsOf (s : Nat) : List Int := (List.range s).map fun (k : Nat) => (60 * (k : Int)).fdiv (s : Int)
noncomputable def hs (c0 c1 c2 c3 : Int) (s : Nat) (t : Int) : Int := (ptsOf s).foldl (fun t m => t + wt c0 c1 c2 c3 m) t
noncomputable def hf (c0 c1 c2 c3 : Int) (r : Nat) (t : Int) : Int := (List.range r).foldl (fun t s => hs c0 c1 c2 c3 (s + 1) t) t
noncomputable abbrev cellsV (c0 c1 c2 c3 : Int) : V := .list [.int c0, .int c1, .int c2, .int c3]
noncomputable abbrev runsV (a b c : Nat) : V := .list [.int a, .int b, .int c]
theorem q_figures (w : World) (x : Int) : (c_law_figures w).den [.int x] = some (.list [.int (x.fmod 6), .int ((x.fdiv 6).fmod 6), .int ((x.fdiv 36).fmod 6)]) := by kernel_rfl
theorem loop3 {g : V → List SV → Option (List SV)} {body : List SV → Option (Fl × List SV)} {R : V} {Cs : V} {F : Nat → Int → Int}
    (h : ∀ r < 6, ∀ (t : Int) (x3 x4 x5 : SV), Goes (turnD g body (.int (r : Nat)) [.val R, .val Cs, .val (.int t), x3, x4, x5]) fun σ => ∃ x3' x4' x5', σ = [.val R, .val Cs, .val (.int (F r t)), x3', x4', x5'])
    {a b c : Nat} (ha : a < 6) (hb : b < 6) (hc : c < 6) (t : Int) (x3 x4 x5 : SV) : Goes (loopD g body [.int a, .int b, .int c] [.val R, .val Cs, .val (.int t), x3, x4, x5]) fun σ => ∃ x3' x4' x5', σ = [.val R, .val Cs, .val (.int (F c (F b (F a t)))), x3', x4', x5'] := by
  refine loop_goes (h a ha t x3 x4 x5) ?_
  rintro _ ⟨_, _, _, rfl⟩
  refine loop_goes (h b hb _ _ _ _) ?_
  rintro _ ⟨_, _, _, rfl⟩
  refine loop_goes (h c hc _ _ _ _) ?_
  rintro _ ⟨_, _, _, rfl⟩
  exact loop_done ⟨_, _, _, rfl⟩
theorem q_heft (w : World) (c0 c1 c2 c3 : Int) {a b c : Nat} (ha : a < 6) (hb : b < 6) (hc : c < 6) :
    (c_law_heft w).den [runsV a b c, cellsV c0 c1 c2 c3] = some (.int (hf c0 c1 c2 c3 c (hf c0 c1 c2 c3 b (hf c0 c1 c2 c3 a 0)))) := by
  refine ofDef0_den rfl ?_
  unfold b_law_heft
  refine cons_rets (σ1 := [.val (runsV a b c), .val (cellsV c0 c1 c2 c3), .val (.int 0), .unset, .unset, .unset]) rfl (cons_goes (for_goes (v := runsV a b c) (xs := [.int a, .int b, .int c]) rfl rfl (loop3 (F := hf c0 c1 c2 c3) (R := runsV a b c) (Cs := cellsV c0 c1 c2 c3) ?_ ha hb hc 0 _ _ _)) ?_)
  · intro r hr t x3 x4 x5
    match r, hr with
    | 0, _ => exact goes (σ1 := [.val (runsV a b c), .val (cellsV c0 c1 c2 c3), .val (.int (hf c0 c1 c2 c3 0 t)), .val (.int 0), x4, x5]) (by kernel_rfl) ⟨_, _, _, rfl⟩
    | 1, _ => exact goes (σ1 := [.val (runsV a b c), .val (cellsV c0 c1 c2 c3), .val (.int (hf c0 c1 c2 c3 1 t)), .val (.int 1), .val (.int 1), .val (.int 0)]) (by kernel_rfl) ⟨_, _, _, rfl⟩
    | 2, _ => exact goes (σ1 := [.val (runsV a b c), .val (cellsV c0 c1 c2 c3), .val (.int (hf c0 c1 c2 c3 2 t)), .val (.int 2), .val (.int 2), .val (.int 1)]) (by kernel_rfl) ⟨_, _, _, rfl⟩
    | 3, _ => exact goes (σ1 := [.val (runsV a b c), .val (cellsV c0 c1 c2 c3), .val (.int (hf c0 c1 c2 c3 3 t)), .val (.int 3), .val (.int 3), .val (.int 2)]) (by kernel_rfl) ⟨_, _, _, rfl⟩
    | 4, _ => exact goes (σ1 := [.val (runsV a b c), .val (cellsV c0 c1 c2 c3), .val (.int (hf c0 c1 c2 c3 4 t)), .val (.int 4), .val (.int 4), .val (.int 3)]) (by kernel_rfl) ⟨_, _, _, rfl⟩
    | 5, _ => exact goes (σ1 := [.val (runsV a b c), .val (cellsV c0 c1 c2 c3), .val (.int (hf c0 c1 c2 c3 5 t)), .val (.int 5), .val (.int 5), .val (.int 4)]) (by kernel_rfl) ⟨_, _, _, rfl⟩
  · rintro _ ⟨_, _, _, rfl⟩
    exact ret_rets rfl
noncomputable def tl (a b c g : Nat) : List Nat := List.replicate a 32 ++ 9 :: (List.replicate b 32 ++ 9 :: (List.replicate c 32 ++ 9 :: (List.replicate g 32 ++ [120, 9, 32])))
noncomputable def txt (a b c g : Nat) : Str := ⟨(tl a b c g).toArray⟩
noncomputable def tab4 : List (Nat × Nat × Nat × Nat) := (List.range 6).flatMap fun a => (List.range 6).flatMap fun b => (List.range 6).flatMap fun c => (List.range 4).map fun g => (a, b, c, g)
theorem mem4 {a b c g : Nat} (ha : a < 6) (hb : b < 6) (hc : c < 6) (hg : g < 4) : (a, b, c, g) ∈ tab4 := by
  refine List.mem_flatMap.mpr ⟨a, List.mem_range.mpr ha, List.mem_flatMap.mpr ⟨b, List.mem_range.mpr hb, List.mem_flatMap.mpr ⟨c, List.mem_range.mpr hc, List.mem_map.mpr ⟨g, List.mem_range.mpr hg, rfl⟩⟩⟩⟩
noncomputable def tab3 : List (Nat × Nat × Nat) := (List.range 6).flatMap fun a => (List.range 6).flatMap fun b => (List.range 6).map fun c => (a, b, c)
theorem mem3 {a b c : Nat} (ha : a < 6) (hb : b < 6) (hc : c < 6) : (a, b, c) ∈ tab3 := by
  refine List.mem_flatMap.mpr ⟨a, List.mem_range.mpr ha, List.mem_flatMap.mpr ⟨b, List.mem_range.mpr hb, List.mem_map.mpr ⟨c, List.mem_range.mpr hc, rfl⟩⟩⟩
theorem tabF {α β : Type} {f g : α → β} {l : List α} (h : l.map f = l.map g) {x : α} (m : x ∈ l) : f x = g x := List.map_inj_left.mp h x m
theorem line_tab (w : World) : tab4.map (fun p => (c_law_line w).den [runsV p.1 p.2.1 p.2.2.1, .int p.2.2.2]) = tab4.map fun p => some (.str (txt p.1 p.2.1 p.2.2.1 p.2.2.2)) := by kernel_rfl
theorem q_line (w : World) {a b c g : Nat} (ha : a < 6) (hb : b < 6) (hc : c < 6) (hg : g < 4) : (c_law_line w).den [runsV a b c, .int g] = some (.str (txt a b c g)) := by
  have h := tabF (line_tab w) (mem4 ha hb hc hg)
  dsimp only at h
  exact h
noncomputable def bump (cs : List Int) (b : Nat) : List Int := let l := if cs.length ≤ b then cs ++ List.replicate (b - cs.length + 1) 0 else cs; l.set b ((l[b]?).getD 0 + 1)
noncomputable def cnt (a b c : Nat) : List Int := bump (bump (bump [] a) b) c
theorem bump_len {cs : List Int} {b : Nat} (h : cs.length ≤ 6) (hb : b < 6) : (bump cs b).length ≤ 6 := by
  unfold bump
  dsimp only
  rw [List.length_set]
  split
  · rw [List.length_append, List.length_replicate]; omega
  · exact h
theorem chars {l : List Nat} (h1 : l.length ≤ 2 ^ 20) (h2 : l.all (fun c => decide (c < 128)) = true) : iterV (.str ⟨l.toArray⟩) = some (l.map fun c => V.str ⟨#[c]⟩) := by
  unfold iterV
  have e : (lenOk (Str.length ⟨l.toArray⟩) && (Str.cps ⟨l.toArray⟩).all (fun c => decide (c < 128))) = true := by
    rw [Bool.and_eq_true]
    refine ⟨decide_eq_true (by show l.toArray.size ≤ _; rw [List.size_toArray]; exact h1), ?_⟩
    show l.toArray.all _ = true
    rw [List.all_toArray]; exact h2
  show (if (lenOk (Str.length ⟨l.toArray⟩) && (Str.cps ⟨l.toArray⟩).all (fun c => decide (c < 128))) = true then some (List.map (fun c => V.str ⟨#[c]⟩) l) else none) = _
  rw [e]; rfl
noncomputable def spV : V := .str ⟨#[32]⟩
noncomputable def tbV : V := .str ⟨#[9]⟩
theorem txt_chars (a b c g : Nat) (ha : a < 6) (hb : b < 6) (hc : c < 6) (hg : g < 4) : iterV (.str (txt a b c g)) = some (List.replicate a spV ++ tbV :: (List.replicate b spV ++ tbV :: (List.replicate c spV ++ tbV :: (List.replicate g spV ++ [.str ⟨#[120]⟩, tbV, spV])))) := by
  unfold txt
  rw [chars]
  · unfold tl
    simp only [List.map_append, List.map_replicate, List.map_cons, List.map_nil]; rfl
  · unfold tl
    simp only [List.length_append, List.length_replicate, List.length_cons, List.length_nil]; omega
  · unfold tl
    simp
theorem loop_brk {g : V → List SV → Option (List SV)} {body : List SV → Option (Fl × List SV)} {x : V} {xs : List V} {σ σ' : List SV} (h : turnD g body x σ = some (.brk, σ')) : loopD g body (x :: xs) σ = some (.next, σ') := by
  unfold loopD
  unfold turnD at h
  (refine Classical.byContradiction fun hnn => ?_; split at (h) <;> (refine hnn ?_; clear hnn))
  · exact nn0 h
  · rename_i σ₀ e
    rw [e]; dsimp only; rw [h]
noncomputable def wsS (me ws : SV) (p : Bool) (cs : List Int) (b n nt : Int) (ch : SV) : List SV := [me, ws, .val (.str " "), .val (.str "\t"), .own p (cs.map .int), .val (.int b), .val (.int n), .val (.int nt), ch]
theorem loop_sp {g : V → List SV → Option (List SV)} {body : List SV → Option (Fl × List SV)} (h : ∀ me ws p cs b n nt ch, turnD g body spV (wsS me ws p cs b n nt ch) = some (.next, wsS me ws p cs (b + 1) (n + 1) nt (.val spV))) :
    ∀ (r : Nat) (me ws : SV) (p : Bool) (cs : List Int) (b : Nat) (n nt : Int) (ch : SV) (xs : List V) (P : List SV → Prop), (∀ n' ch', Goes (loopD g body xs (wsS me ws p cs ((b + r : Nat) : Int) n' nt ch')) P) → Goes (loopD g body (List.replicate r spV ++ xs) (wsS me ws p cs (b : Int) n nt ch)) P
  | 0, me, ws, p, cs, b, n, nt, ch, xs, P, k => k n ch
  | r + 1, me, ws, p, cs, b, n, nt, ch, xs, P, k => by
    rw [List.replicate_succ, List.cons_append]
    refine loop_goes (goes (h me ws p cs b n nt ch) (P := fun σ => σ = _) rfl) ?_
    rintro _ rfl
    refine loop_sp h r me ws p cs (b + 1) (n + 1) nt _ xs P fun n' ch' => ?_
    have := k n' ch'
    rw [show b + 1 + r = b + (r + 1) from by omega]
    exact this
theorem loop_ws {g : V → List SV → Option (List SV)} {body : List SV → Option (Fl × List SV)} (h : ∀ me ws p cs b n nt ch, turnD g body spV (wsS me ws p cs b n nt ch) = some (.next, wsS me ws p cs (b + 1) (n + 1) nt (.val spV)))
    (ht : ∀ (cs : List Int) (b : Nat), cs.length ≤ 6 → b < 6 → ∀ me ws p n nt ch, turnD g body tbV (wsS me ws p cs (b : Nat) n nt ch) = some (.next, wsS me ws false (bump cs b) 0 (n + 1) (nt + 1) (.val tbV)))
    (hx : ∀ me ws p cs b n nt ch, turnD g body (.str ⟨#[120]⟩) (wsS me ws p cs b n nt ch) = some (.brk, wsS me ws p cs b n nt (.val (.str ⟨#[120]⟩))))
    {a b c g' : Nat} (ha : a < 6) (hb : b < 6) (hc : c < 6) (me ws : SV) (p : Bool) (ch : SV) :
    Goes (loopD g body (List.replicate a spV ++ tbV :: (List.replicate b spV ++ tbV :: (List.replicate c spV ++ tbV :: (List.replicate g' spV ++ [.str ⟨#[120]⟩, tbV, spV])))) (wsS me ws p [] 0 0 0 ch)) fun σ => ∃ n ch', σ = wsS me ws false (cnt a b c) g' n 3 ch' := by
  refine loop_sp h a me ws p [] 0 0 0 ch _ _ fun n1 ch1 => ?_
  rw [Nat.zero_add]
  refine loop_goes (goes (ht [] a (by decide) ha me ws p n1 0 ch1) (P := fun σ => σ = _) rfl) ?_
  rintro _ rfl
  refine loop_sp h b me ws _ _ 0 _ _ _ _ _ fun n1 ch1 => ?_
  rw [Nat.zero_add]
  refine loop_goes (goes (ht _ b (bump_len (by decide) ha) hb me ws _ n1 _ ch1) (P := fun σ => σ = _) rfl) ?_
  rintro _ rfl
  refine loop_sp h c me ws _ _ 0 _ _ _ _ _ fun n1 ch1 => ?_
  rw [Nat.zero_add]
  refine loop_goes (goes (ht _ c (bump_len (bump_len (by decide) ha) hb) hc me ws _ n1 _ ch1) (P := fun σ => σ = _) rfl) ?_
  rintro _ rfl
  refine loop_sp h g' me ws _ _ 0 _ _ _ _ _ fun n1 ch1 => ?_
  rw [Nat.zero_add]
  exact ⟨_, loop_brk (hx _ _ _ _ _ _ _ _), _, _, rfl⟩
theorem cnt_len {a b c : Nat} (ha : a < 6) (hb : b < 6) (hc : c < 6) : (cnt a b c).length ≤ 6 := bump_len (bump_len (bump_len (by decide) ha) hb) hc
section
variable {u : U} {n : Nat} {C : Nm}
theorem ofCls_den {ca fa : Addr} {na : Nat} {body : XS u n C} {h hmk hin hty hl hb} {args : List V} {fs : List (Str × V)} (hn : args.length = na) (hr : Goes (body.den (SV.self ca [] :: (sigma C (V.none :: args)).tail)) fun σ => ∃ r, σ = .self ca fs :: r) : (Co.ofCls (ca := ca) (fa := fa) na body h hmk hin hty hl hb).den args = some (.inst ca fs) := by
  have z11 := hr; clear hr; refine sEAE z11 fun _ hr r z10 => ?_; clear z11; (first | subst z10 | cases (z10))
  show (if args.length = na then match body.den (SV.self ca [] :: (sigma C (V.none :: args)).tail) with
    | some (Fl.next, σ') => match (σ'[0]? : Option SV) with
      | some (.self c fs) => if c = ca then some (V.inst ca fs) else none
      | _ => none
    | _ => none else none) = _
  rw [if_pos hn, hr]
  show (if ca = ca then some (V.inst ca fs) else none) = _
  rw [if_pos rfl]
theorem tupleOwn_den {i : Nat} {x : Str} {k : NameKind} {hx : C.slots[i]? = some (x, k)} {np fp p : Pos} {e1 h1} {σ : List SV} {xs : List V} {pf : Bool} (h : σ[i]? = some (.own pf xs)) (hc : (lenOk xs.length && xs.all V.flat) = true) : (XE.tupleOwn (u := u) (n := n) i x k hx np fp p e1 h1).den σ = some (.tup xs, false) := by
  show (match σ[i]? with
    | some (.own _ xs) => if lenOk xs.length && xs.all V.flat then some (V.tup xs, false) else none
    | _ => none) = _
  rw [h]; dsimp only; rw [hc]; rfl
theorem tup_den {es : List (XA u n C)} {k : Nat} {p : Pos} {hl : es.length ≤ 1000} {σ : List SV} {vs : List V} {b : Bool} (h : denL es σ = some (vs, b)) : (XE.tup es k p hl).den σ = some (.tup vs, b) := by
  show (match denL es σ with
    | none => none
    | some (vs, b) => some (V.tup vs, b)) = _
  rw [h]
theorem denL_cons {a : XE u n C} {ns : isStarred a.e = false} {r : List (XA u n C)} {σ : List SV} {x : V} {xs : List V} {f g : Bool} (h1 : a.den σ = some (x, f)) (h2 : denL r σ = some (xs, g)) : denL (⟨a, ns⟩ :: r) σ = some (x :: xs, f || g) := by
  unfold denL
  dsimp only
  rw [h1]; dsimp only; rw [h2]
theorem cmpE_den {op : CmpOp} {a b : XE u n C} {p : Pos} {hm} {σ : List SV} {x y : V} {f g : Bool} {z : Bool} (h1 : a.den σ = some (x, f)) (h2 : b.den σ = some (y, g)) (h3 : cmpop op x y = some z) : (XE.cmp op a b p hm).den σ = some (.bool z, false) := by
  show (match a.den σ with
    | none => none
    | some (x, _) => match b.den σ with
      | none => none
      | some (y, _) => match cmpop op x y with
        | none => none
        | some z => some (V.bool z, false)) = _
  rw [h1]; dsimp only; rw [h2]; dsimp only; rw [h3]
theorem len_den {xs : List V} (h : lenOk xs.length = true) : (lenC : Co u n (.builtin "len")).den [.list xs] = some (.int xs.length) := by
  show (if lenOk xs.length then some (V.int xs.length) else none) = _
  rw [h]; rfl
theorem denL_cons0 {a : XE u n C} {ns : isStarred a.e = false} {r : List (XA u n C)} {σ : List SV} {x : V} {xs : List V} (h1 : a.den σ = some (x, false)) (h2 : denL r σ = some (xs, false)) : denL (⟨a, ns⟩ :: r) σ = some (x :: xs, false) := denL_cons h1 h2
end
section
variable {u : U} {n : Nat} {C : Nm}
theorem cons_denP {x : X1 u n C} {xs : XS u n C} {σ : List SV} {r : Option (Fl × List SV)} (P : List SV → Prop) (h : Goes (x.den σ) P) (h2 : ∀ σ1, P σ1 → xs.den σ1 = r) : (XS.cons x xs).den σ = r := by
  have z12 := h; clear h; refine sEA z12 fun σ1 h p => ?_; clear z12
  exact cons_den h (h2 σ1 p)
theorem rep_den {c : XE u n C} {ns : isStarred c.e = false} {b : XE u n C} {p1 p : Pos} {σ : List SV} {v : V} {k : Int} {f g : Bool} (h1 : c.den σ = some (v, f)) (h2 : b.den σ = some (.int k, g)) (hk : -1048576 ≤ k ∧ k ≤ 1048576) : (XE.rep ⟨c, ns⟩ b p1 p).den σ = some (.list (List.replicate k.toNat v), f || g) := by
  show (match c.den σ with
    | some (v, f) => match b.den σ with
      | some (.int k, g) => if decide (-1048576 ≤ k) && decide (k ≤ 1048576) then some (V.list (List.replicate k.toNat v), f || g) else none
      | _ => none
    | none => none) = _
  rw [h1]; dsimp only; rw [h2]; dsimp only; rw [decide_eq_true hk.1, decide_eq_true hk.2]; rfl
theorem cat_den {i : Nat} {x : Str} {k : NameKind} {hx : C.slots[i]? = some (x, k)} {hk : k ≠ .free} {a b : XE u n C} {p2 p1 p : Pos} {σ : List SV} {xs ys : List V} {f g : Bool} (h1 : a.den σ = some (.list xs, f)) (h2 : b.den σ = some (.list ys, g)) (h3 : (lenOk (xs.length + ys.length) && xs.all V.flat && ys.all V.flat) = true) : (X1.assignCat i x k hx hk a b p2 p1 p).den σ = some (.next, σ.set i (.own true (xs ++ ys))) := by
  show (match a.den σ with
    | some (.list xs, f) => match b.den σ with
      | some (.list ys, g) => if lenOk (xs.length + ys.length) && xs.all V.flat && ys.all V.flat then some (Fl.next, σ.set i (SV.own true (xs ++ ys))) else none
      | _ => none
    | _ => none) = _
  rw [h1]; dsimp only; rw [h2]; dsimp only; rw [h3]; rfl
theorem setItem_den {i : Nat} {x : Str} {k : NameKind} {hx : C.slots[i]? = some (x, k)} {a b : XE u n C} {np p1 p : Pos} {hsw} {σ : List SV} {pf : Bool} {xs : List V} {v : V} {f g : Bool} {j : Int} (h0 : σ[i]? = some (.own pf xs)) (h1 : a.den σ = some (v, f)) (h2 : b.den σ = some (.int j, g)) (h3 : (decide (0 ≤ j) && decide (j < xs.length) && lenOk xs.length && (!f || v.flat)) = true) : (X1.setItem i x k hx a b np p1 p hsw).den σ = some (.next, σ.set i (.own false (xs.set j.toNat v))) := by
  show (match σ[i]? with
    | some (.own _ xs) => match a.den σ with
      | some (v, f) => match b.den σ with
        | some (.int j, _) => if decide (0 ≤ j) && decide (j < xs.length) && lenOk xs.length && (!f || v.flat) then some (Fl.next, σ.set i (SV.own false (xs.set j.toNat v))) else none
        | _ => none
      | none => none
    | _ => none) = _
  rw [h0]; dsimp only; rw [h1]; dsimp only; rw [h2]; dsimp only; rw [h3]; rfl
theorem idx_den {a b : XE u n C} {p : Pos} {σ : List SV} {x y z : V} {f g : Bool} (h1 : a.den σ = some (x, f)) (h2 : b.den σ = some (y, g)) (h3 : XE.getV x y = some z) : (XE.idx a b p).den σ = some (z, f || g) := by
  show (match a.den σ with
    | none => none
    | some (x, f) => match b.den σ with
      | none => none
      | some (y, g) => match XE.getV x y with
        | none => none
        | some z => some (z, f || g)) = _
  rw [h1]; dsimp only; rw [h2]; dsimp only; rw [h3]
theorem getV_int {xs : List Int} {b : Nat} (h : b < xs.length) (hb : b < 1048576) : XE.getV (.list (xs.map .int)) (.int b) = some (.int ((xs[b]?).getD 0)) := by
  show (if decide ((0 : Int) ≤ (b : Int)) && decide ((b : Int) < 1048576) then (xs.map V.int)[(b : Int).toNat]? else none) = _
  rw [decide_eq_true (by omega), decide_eq_true (by omega), Int.toNat_natCast, List.getElem?_map, List.getElem?_eq_getElem h]
  rfl
end
noncomputable def fsV (t : Str) (n : Int) (s : Bool) (cs : List Int) (g : Int) : List (Str × V) := [("raw", .str t), ("n", .int n), ("nt", .int 3), ("norm", .tup [.tup (cs.map .int), .int g]), ("is_simple", .bool s)]
theorem lenOk_le {k : Nat} (h : k ≤ 1000) : lenOk k = true := decide_eq_true (by omega)
theorem flatI (cs : List Int) : (cs.map V.int).all V.flat = true := by
  rw [List.all_map, List.all_eq_true]; intro x _; rfl
theorem q_ws (w : World) {a b c g : Nat} (ha : a < 6) (hb : b < 6) (hc : c < 6) (hg : g < 4) : ∃ n s, (c_Whitespace w).den [.str (txt a b c g)] = some (V.inst 181 (fsV (txt a b c g) n s (cnt a b c) g)) := by
  suffices h : ∃ n s, Goes ((b_Whitespace__init w).den (SV.self 181 [] :: (sigma nm_Whitespace__init (V.none :: [.str (txt a b c g)])).tail)) fun σ => ∃ r, σ = .self 181 [("raw", .str (txt a b c g)), ("n", .int n), ("nt", .int 3), ("norm", .tup [.tup ((cnt a b c).map .int), .int g]), ("is_simple", .bool s)] :: r by
    have z13 := h; clear h; refine sEE z13 fun n s h => ?_; clear z13
    exact ⟨n, s, ofCls_den rfl h⟩
  have hlen : lenOk ((cnt a b c).map V.int).length = true := decide_eq_true (by have := cnt_len ha hb hc; rw [List.length_map]; omega)
  suffices h : Goes ((b_Whitespace__init w).den (SV.self 181 [] :: (sigma nm_Whitespace__init (V.none :: [.str (txt a b c g)])).tail)) fun σ => ∃ n s r, σ = .self 181 [("raw", .str (txt a b c g)), ("n", .int n), ("nt", .int 3), ("norm", .tup [.tup ((cnt a b c).map .int), .int g]), ("is_simple", .bool s)] :: r by
    have z15 := h; clear h; refine sEAEEE z15 fun _ h n s r z14 => ?_; clear z15; (first | subst z14 | cases (z14))
    exact ⟨n, s, _, h, r, rfl⟩
  unfold b_Whitespace__init
  refine cons_step ([.self 181 [("raw", .str (txt a b c g))], .val (.str (txt a b c g)), .unset, .unset, .unset, .unset, .unset, .unset, .unset]) (by kernel_rfl) ?_
  refine cons_step ([.self 181 [("raw", .str (txt a b c g))], .val (.str (txt a b c g)), .val (.str " "), .val (.str "\t"), .unset, .unset, .unset, .unset, .unset]) (by kernel_rfl) ?_
  refine cons_step ([.self 181 [("raw", .str (txt a b c g))], .val (.str (txt a b c g)), .val (.str " "), .val (.str "\t"), .own true [], .unset, .unset, .unset, .unset]) (by kernel_rfl) ?_
  refine cons_step (wsS (.self 181 [("raw", .str (txt a b c g))]) (.val (.str (txt a b c g))) true [] 0 0 0 .unset) (by kernel_rfl) ?_
  refine cons_goes2 (for_goes (v := .str (txt a b c g)) rfl (txt_chars a b c g ha hb hc hg) (loop_ws ?_ ?_ ?_ ha hb hc _ _ _ _)) ?_
  · intro me ws p cs b n nt ch; kernel_rfl
  · intro cs b hcs hb me ws p n nt ch
    have hl : ∀ l : List Int, l.length ≤ 13 → lenOk (l.map V.int).length = true := fun l h => decide_eq_true (by rw [List.length_map]; omega)
    show XS.den _ (wsS me ws p cs (b : Nat) n nt (.val tbV)) = _
    refine cons_den (ite_den (c := false) (by kernel_rfl) (cons_den (ite_den (c := true) (by kernel_rfl) (cons_den (σ1 := wsS me ws p cs (b : Nat) (n + 1) nt (.val tbV)) (by kernel_rfl) (cons_den (σ1 := wsS me ws p cs (b : Nat) (n + 1) (nt + 1) (.val tbV)) (by kernel_rfl) ?_))) nil_den)) nil_den
    refine cons_denP (fun σ => ∃ q, σ = wsS me ws q (if cs.length ≤ b then cs ++ List.replicate (b - cs.length + 1) 0 else cs) (b : Nat) (n + 1) (nt + 1) (.val tbV)) ?_ ?_
    · have hc : ∀ t : Bool, t = decide (cs.length ≤ b) → t = decide (((cs.map V.int).length : Int) ≤ (b : Int)) := by
        intro t e; rw [e, List.length_map]; exact decide_eq_decide.mpr (by omega)
      by_cases hq : cs.length ≤ b
      · rw [if_pos hq]
        refine ⟨_, ite_den (c := true) (cmpT_den rfl (callB_den (denL_cons rfl rfl) (len_den (hl cs (by omega)))) ?_) (cons_den (cat_den (g := true) (xs := cs.map .int) (ys := List.replicate (b - cs.length + 1) (.int 0)) rfl ?_ ?_) nil_den), true, ?_⟩
        · exact congrArg some (hc true (decide_eq_true hq).symm).symm
        · refine (rep_den (k := (b : Int) - (cs.length : Int) + 1) rfl (bin_den (bin_den rfl (callB_den (denL_cons rfl rfl) (len_den (hl cs (by omega)))) (by rw [List.length_map]; rfl)) rfl rfl) (by omega)).trans ?_
          rw [show ((b : Int) - (cs.length : Int) + 1).toNat = b - cs.length + 1 from by omega]; rfl
        · rw [flatI, lenOk_le (by rw [List.length_map, List.length_replicate]; omega)]
          rw [List.all_replicate]; simp [V.flat]
        · show _ = wsS _ _ _ _ _ _ _ _
          unfold wsS; rw [List.map_append, List.map_replicate]; rfl
      · rw [if_neg hq]
        exact ⟨_, ite_den (c := false) (cmpT_den rfl (callB_den (denL_cons rfl rfl) (len_den (hl cs (by omega)))) (congrArg some (hc false (decide_eq_false hq).symm).symm)) nil_den, p, rfl⟩
    · rintro _ ⟨q, rfl⟩
      have e : bump cs b = (let l := if cs.length ≤ b then cs ++ List.replicate (b - cs.length + 1) 0 else cs; l.set b ((l[b]?).getD 0 + 1)) := rfl
      rw [e]
      have h1 : (if cs.length ≤ b then cs ++ List.replicate (b - cs.length + 1) 0 else cs).length ≤ 13 := by
        split
        · rw [List.length_append, List.length_replicate]; omega
        · omega
      have h2 : b < (if cs.length ≤ b then cs ++ List.replicate (b - cs.length + 1) 0 else cs).length := by
        split
        · rw [List.length_append, List.length_replicate]; omega
        · omega
      generalize (if cs.length ≤ b then cs ++ List.replicate (b - cs.length + 1) 0 else cs) = l at h1 h2
      refine cons_den (σ1 := wsS me ws false (l.set b ((l[b]?).getD 0 + 1)) (b : Nat) (n + 1) (nt + 1) (.val tbV)) ?_ (cons_den (by kernel_rfl) nil_den)
      refine (setItem_den (pf := q) (xs := l.map .int) (j := b) rfl (bin_den (idx_den rfl rfl (getV_int h2 (by omega))) rfl rfl) rfl ?_).trans ?_
      · rw [hl l h1, decide_eq_true (by omega), decide_eq_true (by rw [List.length_map]; omega)]; rfl
      · rw [Int.toNat_natCast]
        unfold wsS
        rw [List.map_set]; rfl
  · intro me ws p cs b n nt ch; kernel_rfl
  · rintro _ ⟨n, ch, rfl⟩
    refine cons_step (wsS (.self 181 [("raw", .str (txt a b c g)), ("n", .int n)]) (.val (.str (txt a b c g))) false (cnt a b c) g n 3 ch) (by kernel_rfl) ?_
    refine cons_step (wsS (.self 181 [("raw", .str (txt a b c g)), ("n", .int n), ("nt", .int 3)]) (.val (.str (txt a b c g))) false (cnt a b c) g n 3 ch) (by kernel_rfl) ?_
    refine cons_goes2 (P := fun σ => σ = wsS (.self 181 [("raw", .str (txt a b c g)), ("n", .int n), ("nt", .int 3), ("norm", .tup [.tup ((cnt a b c).map .int), .int g])]) (.val (.str (txt a b c g))) false (cnt a b c) g n 3 ch) (goes (assignT_den (tup_den (denL_cons0 (tupleOwn_den rfl (by rw [hlen, flatI]; rfl)) (denL_cons0 rfl rfl))) (by kernel_rfl)) rfl) ?_
    rintro _ rfl
    refine cons_goes2 (P := fun σ => σ = wsS (.self 181 [("raw", .str (txt a b c g)), ("n", .int n), ("nt", .int 3), ("norm", .tup [.tup ((cnt a b c).map .int), .int g]), ("is_simple", .bool (decide ((((cnt a b c).map V.int).length : Int) ≤ 1)))]) (.val (.str (txt a b c g))) false (cnt a b c) g n 3 ch) (goes (assignT_den (cmpE_den (callB_den (denL_cons rfl rfl) (len_den hlen)) rfl rfl) (by kernel_rfl)) rfl) ?_
    rintro _ rfl
    exact nil_goes ⟨_, _, _, rfl⟩
section
variable {u : U} {n : Nat} {C : Nm}
theorem turn_name {i : Nat} {x : Str} {k : NameKind} {hx : C.slots[i]? = some (x, k)} {hk : k ≠ .free} {p : Pos} {body : XS u n C} {v : V} {σ : List SV} {r : Option (Fl × List SV)} (h : body.den (σ.set i (.val v)) = r) : turnD (XG.name (u := u) (n := n) i x k hx hk p).den body.den v σ = r := h
theorem len_denT {xs : List V} (h : lenOk xs.length = true) : (lenC : Co u n (.builtin "len")).den [.tup xs] = some (.int xs.length) := by
  show (if lenOk xs.length then some (V.int xs.length) else none) = _
  rw [h]; rfl
theorem getT_int {xs : List Int} {b : Nat} (h : b < xs.length) (hb : b < 1048576) : XE.getV (.tup (xs.map .int)) (.int b) = some (.int ((xs[b]?).getD 0)) := by
  show (if decide ((0 : Int) ≤ (b : Int)) && decide ((b : Int) < 1048576) then (xs.map V.int)[(b : Int).toNat]? else none) = _
  rw [decide_eq_true (by omega), decide_eq_true (by omega), Int.toNat_natCast, List.getElem?_map, List.getElem?_eq_getElem h]
  rfl
theorem iter_rng {a b : Int} (ha : a.natAbs < 1048576) (hb : b.natAbs < 1048576) : iterV (.rng a b) = some (rngV a b) := by
  show (if decide (a.natAbs < 1048576) && decide (b.natAbs < 1048576) then some (rngV a b) else none) = _
  rw [decide_eq_true ha, decide_eq_true hb]; rfl
theorem mul_small {a b : Int} (h : a.natAbs < 1048576) : binop .Mult (.int a) (.int b) = some (.int (a * b)) := by
  show (if mulOk a b then some (V.int (a * b)) else none) = _
  have : mulOk a b = true := by
    unfold mulOk
    rw [decide_eq_true (show a.natAbs < big from Nat.lt_of_lt_of_le h (by decide))]; rfl
  rw [this]; rfl
theorem div_small {a b : Int} (h0 : b ≠ 0) (h : b.natAbs < 1048576) : binop .FloorDiv (.int a) (.int b) = some (.int (a.fdiv b)) := by
  show (if b != 0 && decide (b.natAbs < big) then some (V.int (a.fdiv b)) else none) = _
  rw [decide_eq_true (show b.natAbs < big from Nat.lt_of_lt_of_le h (by decide)), (bne_iff_ne).mpr h0]; rfl
end
theorem q_longest (w : World) {t : Str} {n : Int} {s : Bool} {cs : List Int} {g : Int} (h : cs.length ≤ 6) : (c_Whitespace_longest_run_of_spaces w).den [(V.inst 181 (fsV t n s cs g))] = some (.int (if g > (cs.length : Int) - 1 then g else (cs.length : Int) - 1)) := by
  refine ofDef0_den rfl ?_
  unfold b_Whitespace_longest_run_of_spaces
  refine cons_rets (σ1 := [.val (V.inst 181 (fsV t n s cs g)), .val (.tup (cs.map .int)), .val (.int g)]) (by kernel_rfl) (ret_rets (callB_den (denL_cons0 (bin_den (callB_den (denL_cons0 rfl rfl) (len_denT (lenOk_le (by rw [List.length_map]; omega)))) rfl rfl) (denL_cons0 rfl rfl)) ?_))
  rw [List.length_map]; rfl
noncomputable def ilF (cs : List Int) (s : Nat) (ks : List Nat) (il : Int) : Int := ks.foldl (fun il k => il + (((s + k : Nat) : Int)).fdiv s * (cs[s + k]?).getD 0) il
theorem ilF_cons (cs : List Int) (s k : Nat) (ks : List Nat) (il : Int) : ilF cs s (k :: ks) il = ilF cs s ks (il + (((s + k : Nat) : Int)).fdiv s * (cs[s + k]?).getD 0) := rfl
theorem q_level0 (w : World) {t : Str} {n : Int} {b : Bool} {cs : List Int} {g : Int} {s : Nat} (h : cs.length ≤ 6) (h0 : 0 < s) (h1 : s < 1000) : (c_Whitespace_indent_level w).den [(V.inst 181 (fsV t n b cs g)), .int s] = some (.int (g + s * (ilF cs s (List.range (cs.length - s)) 0 + 3))) := by
  refine ofDef0_den rfl ?_
  unfold b_Whitespace_indent_level
  refine cons_rets (σ1 := [.val (V.inst 181 (fsV t n b cs g)), .val (.int s), .val (.tup (cs.map .int)), .val (.int g), .unset, .unset]) (by kernel_rfl) ?_
  refine cons_rets (σ1 := [.val (V.inst 181 (fsV t n b cs g)), .val (.int s), .val (.tup (cs.map .int)), .val (.int g), .val (.int 0), .unset]) rfl ?_
  refine cons_goes (for_goes (v := .rng (s : Int) (cs.length : Int)) (xs := rngV s cs.length) ?_ (iter_rng (by omega) (by omega)) (P := fun σ => ∃ x, σ = [.val (V.inst 181 (fsV t n b cs g)), .val (.int s), .val (.tup (cs.map .int)), .val (.int g), .val (.int (ilF cs s (List.range (cs.length - s)) 0)), x]) ?_) ?_
  · refine callB_den (denL_cons0 rfl (denL_cons0 (callB_den (denL_cons0 rfl rfl) (len_denT (lenOk_le (by rw [List.length_map]; omega)))) rfl)) ?_
    rw [List.length_map]; rfl
  · unfold rngV
    rw [show ((cs.length : Int) - (s : Int)).toNat = cs.length - s from by omega]
    have hk : ∀ k ∈ List.range (cs.length - s), s + k < cs.length := fun k m => by have := List.mem_range.mp m; omega
    revert hk
    generalize (0 : Int) = il
    generalize SV.unset = x
    generalize List.range (cs.length - s) = ks
    induction ks generalizing il x with
    | nil => exact fun _ => loop_done ⟨x, rfl⟩
    | cons k ks ih =>
      intro hk
      have hk0 := hk k List.mem_cons_self
      rw [List.map_cons, ilF_cons, show (s : Int) + (k : Int) = ((s + k : Nat) : Int) from by omega]
      generalize s + k = j at hk0 ⊢
      refine loop_goes (Q := fun σ => σ = [.val (V.inst 181 (fsV t n b cs g)), .val (.int s), .val (.tup (cs.map .int)), .val (.int g), .val (.int (il + ((j : Int)).fdiv s * (cs[j]?).getD 0)), .val (.int (j : Int))]) ⟨_, ?_, rfl⟩ ?_
      · refine turn_name ?_
        have hq : ((j : Int).fdiv s).natAbs < 1048576 := by
          rw [Int.fdiv_eq_ediv_of_nonneg _ (by omega)]
          have e : (j : Int) / (s : Int) = ((j / s : Nat) : Int) := (Int.natCast_ediv j s).symm
          rw [e, Int.natAbs_natCast]
          have := Nat.div_le_self j s
          omega
        exact cons_den (assign_den' (bin_den rfl (bin_den (bin_den rfl rfl (div_small (by omega) (by omega))) (idx_den rfl rfl (getT_int hk0 (by omega))) (mul_small hq)) rfl) rfl) nil_den
      · rintro _ rfl
        exact ih _ _ fun k m => hk k (List.mem_cons_of_mem _ m)
  · rintro _ ⟨x, rfl⟩
    exact ret_rets (bin_den rfl (bin_den rfl (bin_den (y := .int 3) (g := false) rfl (by kernel_rfl) rfl) (mul_small (by omega))) rfl)
noncomputable def wh (a b c s : Nat) : Nat := a / s + b / s + c / s
theorem il_eq : ∀ a < 6, ∀ b < 6, ∀ c < 6, ∀ s < 8, 0 < s → ilF (cnt a b c) s (List.range ((cnt a b c).length - s)) 0 = (wh a b c s : Nat) := by decide +kernel
theorem len_eq : ∀ a < 6, ∀ b < 6, ∀ c < 6, (cnt a b c).length = max a (max b c) + 1 := by decide +kernel
theorem q_level (w : World) {t : Str} {n : Int} {x : Bool} {a b c s : Nat} {g : Int} (ha : a < 6) (hb : b < 6) (hc : c < 6) (h0 : 0 < s) (h1 : s < 8) : (c_Whitespace_indent_level w).den [(V.inst 181 (fsV t n x (cnt a b c) g)), .int s] = some (.int (g + s * ((wh a b c s : Nat) + 3))) := by
  rw [q_level0 w (cnt_len ha hb hc) h0 (by omega), il_eq a ha b hb c hc s h1 h0]
section
variable {u : U} {n : Nat} {C : Nm}
theorem meth_den {a : XE u n C} {c : Addr} {name : Str} {fa : Addr} {co : Co u n (.ref fa)} {es : List (XA u n C)} {ap p : Pos} {K h1 h2 h3 h4 h5 h6} {σ : List SV} {fs : List (Str × V)} {f g : Bool} {vs : List V} {r : V} (e1 : a.den σ = some (.inst c fs, f)) (e2 : fs.lookup name = none) (e3 : denL es σ = some (vs, g)) (e4 : co.den (.inst c fs :: vs) = some r) : (XE.meth a c name fa co es ap p K h1 h2 h3 h4 h5 h6).den σ = some (r, f || g) := by
  show (match a.den σ with
    | some (.inst c' fs, f) => if c' = c then match fs.lookup name with
      | none => match denL es σ with
        | some (vs, g) => match co.den (.inst c' fs :: vs) with
          | some r => some (r, f || g)
          | none => none
        | none => none
      | some _ => none else none
    | _ => none) = _
  rw [e1]; dsimp only; rw [if_pos rfl, e2]; dsimp only; rw [e3]; dsimp only; rw [e4]
theorem methL_den {m : Nat} {a : XE u n C} {c : Addr} {name : Str} {fa : Addr} {co : Co u m (.ref fa)} {hm : m ≤ n} {es : List (XA u n C)} {ap p : Pos} {K h1 h2 h3 h4 h5 h6} {σ : List SV} {fs : List (Str × V)} {f g : Bool} {vs : List V} {r : V} (e1 : a.den σ = some (.inst c fs, f)) (e2 : fs.lookup name = none) (e3 : denL es σ = some (vs, g)) (e4 : co.den (.inst c fs :: vs) = some r) : (XE.meth a c name fa (co.lift hm) es ap p K h1 h2 h3 h4 h5 h6).den σ = some (r, f || g) := meth_den e1 e2 e3 e4
theorem callL_den {m : Nat} {x : Str} {f : Value} {co : Co u m f} {hm : m ≤ n} {es : List (XA u n C)} {np p : Pos} {e} {hk} {hx} {hd} {σ : List SV} {vs : List V} {b : Bool} {r : V} (h : denL es σ = some (vs, b)) (h2 : co.den vs = some r) : (XE.call x f (co.lift hm) es np p e hk hx hd).den σ = some (r, b) := call_den h h2
theorem app_den {i : Nat} {x : Str} {k : NameKind} {hx : C.slots[i]? = some (x, k)} {a : XE u n C} {ns : isStarred a.e = false} {np ap p p2 : Pos} {hl} {σ : List SV} {xs : List V} {v : V} {b : Bool} (e1 : σ[i]? = some (.own true xs)) (e2 : a.den σ = some (v, b)) (e3 : (lenOk xs.length && (!b || v.flat)) = true) : (X1.app i x k hx ⟨a, ns⟩ np ap p p2 hl).den σ = some (.next, σ.set i (.own true (xs ++ [v]))) := by
  show (match σ[i]? with
    | some (.own true xs) => match a.den σ with
      | some (v, b) => if lenOk xs.length && (!b || v.flat) then some (Fl.next, σ.set i (SV.own true (xs ++ [v]))) else none
      | none => none
    | _ => none) = _
  rw [e1]; dsimp only; rw [e2]; dsimp only; rw [e3]; rfl
end
theorem loop_sel {g : V → List SV → Option (List SV)} {body : List SV → Option (Fl × List SV)} {S : List V → SV → List SV} {It : Nat → V} {P : Nat → Bool} {F : Nat → V} {N : Nat}
    (h : ∀ k < N, ∀ xs x, xs.length ≤ 1000 → Goes (turnD g body (It k) (S xs x)) fun σ => ∃ x', σ = S (if P k then xs ++ [F k] else xs) x') :
    ∀ (ks : List Nat), (∀ k ∈ ks, k < N) → ∀ xs x, xs.length + ks.length ≤ 1000 → Goes (loopD g body (ks.map It) (S xs x)) fun σ => ∃ x', σ = S (xs ++ (ks.filter P).map F) x'
  | [], _, xs, x, _ => by
    exact loop_done ⟨x, by simp⟩
  | k :: ks, hk, xs, x, hl => by
    rw [List.length_cons] at hl
    rw [List.map_cons]
    refine loop_goes (h k (hk k List.mem_cons_self) xs x (by omega)) ?_
    rintro _ ⟨x', rfl⟩
    cases hp : P k with
    | true =>
      have := loop_sel (N := N) h ks (fun k m => hk k (List.mem_cons_of_mem _ m)) (xs ++ [F k]) x' (by rw [List.length_append, List.length_cons, List.length_nil]; omega)
      rw [if_pos rfl, List.filter_cons_of_pos hp, List.map_cons]
      rwa [List.append_assoc, List.singleton_append] at this
    | false =>
      have := loop_sel (N := N) h ks (fun k m => hk k (List.mem_cons_of_mem _ m)) xs x' (by omega)
      rw [if_neg (by decide), List.filter_cons_of_neg (by rw [hp]; decide)]
      exact this
noncomputable def lvI (a b c s : Nat) (g : Int) : Int := g + s * ((wh a b c s : Nat) + 3)
noncomputable def difB (a b c d e f : Nat) (k : Nat) : Bool := wh a b c (k + 1) != wh d e f (k + 1)
theorem lv_ne {a b c d e f k : Nat} {g : Int} : (lvI a b c (k + 1) g != lvI d e f (k + 1) g) = difB a b c d e f k := by
  unfold lvI difB
  rw [Bool.eq_iff_iff, bne_iff_ne, bne_iff_ne]
  refine not_congr ⟨fun h => ?_, fun h => by rw [h]⟩
  have h1 : ((k + 1 : Nat) : Int) * ((wh a b c (k + 1) : Nat) + 3) = ((k + 1 : Nat) : Int) * ((wh d e f (k + 1) : Nat) + 3) := by omega
  have h2 := Int.eq_of_mul_eq_mul_left (by omega) h1
  omega
noncomputable def itemV (a b c d e f : Nat) (g : Int) (k : Nat) : V := .tup [.int ((k + 1 : Nat) : Int), .int (lvI a b c (k + 1) g), .int (lvI d e f (k + 1) g)]
noncomputable def topN (a b c d e f g : Nat) : Nat := max (max a (max b c)) (max (max d (max e f)) g)
theorem topN_lt {a b c d e f g : Nat} (ha : a < 6) (hb : b < 6) (hc : c < 6) (hd : d < 6) (he : e < 6) (hf : f < 6) (hg : g < 4) : topN a b c d e f g < 6 :=
  Nat.max_lt.mpr ⟨Nat.max_lt.mpr ⟨ha, Nat.max_lt.mpr ⟨hb, hc⟩⟩, Nat.max_lt.mpr ⟨Nat.max_lt.mpr ⟨hd, Nat.max_lt.mpr ⟨he, hf⟩⟩, Nat.lt_of_lt_of_le hg (by decide)⟩⟩
theorem max_two (x y g : Nat) : max (max x g) (max y g) = max x (max y g) := by rw [Nat.max_assoc, Nat.max_left_comm g y g, Nat.max_self]
theorem top_l (a b c d e f g : Nat) : max a (max b c) ≤ topN a b c d e f g := Nat.le_max_left _ _
theorem top_r (a b c d e f g : Nat) : max d (max e f) ≤ topN a b c d e f g := Nat.le_trans (Nat.le_max_left _ _) (Nat.le_max_right _ _)
theorem wh_top {a b c s : Nat} (h : max a (max b c) < s) : wh a b c s = 0 := by
  unfold wh
  rw [Nat.div_eq_of_lt (by omega), Nat.div_eq_of_lt (by omega), Nat.div_eq_of_lt (by omega)]
theorem dif_top {a b c d e f g : Nat} : difB a b c d e f (topN a b c d e f g) = false := by
  unfold difB
  rw [wh_top (Nat.lt_succ_of_le (top_l a b c d e f g)), wh_top (Nat.lt_succ_of_le (top_r a b c d e f g))]; rfl
noncomputable def selN (a b c d e f g : Nat) : List Nat := (List.range (topN a b c d e f g)).filter (difB a b c d e f)
theorem sel_top (a b c d e f g : Nat) : (List.range (topN a b c d e f g + 1)).filter (difB a b c d e f) = selN a b c d e f g := by
  rw [List.range_succ, List.filter_append]
  unfold selN
  rw [List.filter_cons_of_neg (by rw [dif_top]; decide), List.filter_nil, List.append_nil]
theorem q_longest' (w : World) {t : Str} {n : Int} {s : Bool} {a b c g : Nat} (ha : a < 6) (hb : b < 6) (hc : c < 6) : (c_Whitespace_longest_run_of_spaces w).den [(V.inst 181 (fsV t n s (cnt a b c) g))] = some (.int ((max (max a (max b c)) g : Nat) : Int)) := by
  rw [q_longest w (cnt_len ha hb hc), len_eq a ha b hb c hc]
  congr 2
  split <;> omega
theorem max_den {u : U} {n : Nat} {a b : Nat} : (maxC : Co u n (.builtin "max")).den [.int a, .int b] = some (.int ((max a b : Nat) : Int)) := by
  show some (V.int (if (b : Int) > a then (b : Int) else a)) = _
  congr 2
  split <;> omega
set_option maxHeartbeats 4000000 in
theorem q_new (w : World) {t1 t2 : Str} {n1 n2 : Int} {s1 s2 : Bool} {a b c d e f g : Nat} (ha : a < 6) (hb : b < 6) (hc : c < 6) (hd : d < 6) (he : e < 6) (hf : f < 6) (hg : g < 4) :
    (c_Whitespace_not_equal_witness w).den [(V.inst 181 (fsV t1 n1 s1 (cnt a b c) g)), (V.inst 181 (fsV t2 n2 s2 (cnt d e f) g))] = some (.list ((selN a b c d e f g).map (itemV a b c d e f g))) := by
  refine ofDef0_den rfl ?_
  unfold b_Whitespace_not_equal_witness
  have hT : topN a b c d e f g < 6 := topN_lt ha hb hc hd he hf hg
  have htop : max (max (max a (max b c)) g) (max (max d (max e f)) g) = topN a b c d e f g := max_two _ _ g
  have L1 := q_longest' w (t := t1) (n := n1) (s := s1) (g := g) ha hb hc
  have L2 := q_longest' w (t := t2) (n := n2) (s := s2) (g := g) hd he hf
  have M := max_den (u := u0 w) (n := 1) (a := max (max a (max b c)) g) (b := max (max d (max e f)) g)
  rw [htop] at M
  have hs : sigma nm_Whitespace_not_equal_witness [(V.inst 181 (fsV t1 n1 s1 (cnt a b c) g)), (V.inst 181 (fsV t2 n2 s2 (cnt d e f) g))] = [.val (V.inst 181 (fsV t1 n1 s1 (cnt a b c) g)), .val (V.inst 181 (fsV t2 n2 s2 (cnt d e f) g)), .unset, .unset, .unset] := rfl
  rw [hs]
  have hsel := sel_top a b c d e f g
  generalize topN a b c d e f g = T at *
  refine cons_rets (assign_den' (v := .int ((T : Int) + 1)) (bin_den (callB_den (denL_cons (methL_den rfl (by kernel_rfl) rfl L1) (denL_cons (methL_den rfl (by kernel_rfl) rfl L2) rfl)) M) rfl rfl) rfl) ?_
  refine cons_rets (σ1 := [.val (V.inst 181 (fsV t1 n1 s1 (cnt a b c) g)), .val (V.inst 181 (fsV t2 n2 s2 (cnt d e f) g)), .val (.int ((T : Nat) + 1)), .own true [], .unset]) rfl ?_
  refine cons_goes (for_goes (v := .rng 1 ((T : Nat) + 1 + 1)) (by kernel_rfl) (iter_rng (by omega) (by omega)) (P := fun σ => ∃ x, σ = [.val (V.inst 181 (fsV t1 n1 s1 (cnt a b c) g)), .val (V.inst 181 (fsV t2 n2 s2 (cnt d e f) g)), .val (.int ((T : Nat) + 1)), .own true ((selN a b c d e f g).map (itemV a b c d e f g)), x]) ?_) ?_
  · unfold rngV
    rw [show (((T : Nat) : Int) + 1 + 1 - 1).toNat = T + 1 from by omega, ← hsel]
    refine Goes.imp (loop_sel (N := 7) (S := fun xs x => [.val (V.inst 181 (fsV t1 n1 s1 (cnt a b c) g)), .val (V.inst 181 (fsV t2 n2 s2 (cnt d e f) g)), .val (.int ((T : Nat) + 1)), .own true xs, x]) (P := difB a b c d e f) (F := itemV a b c d e f g) ?_ (List.range (T + 1)) (fun k m => by have := List.mem_range.mp m; omega) [] .unset (by rw [List.length_nil, List.length_range]; omega)) fun σ q => q
    intro k hk xs x hx
    rw [show (1 : Int) + (k : Int) = ((k + 1 : Nat) : Int) from by omega]
    have l1 : (c_Whitespace_indent_level w).den [(V.inst 181 (fsV t1 n1 s1 (cnt a b c) g)), .int ((k + 1 : Nat) : Int)] = some (.int (lvI a b c (k + 1) g)) := q_level w ha hb hc (by omega) (by omega)
    have l2 : (c_Whitespace_indent_level w).den [(V.inst 181 (fsV t2 n2 s2 (cnt d e f) g)), .int ((k + 1 : Nat) : Int)] = some (.int (lvI d e f (k + 1) g)) := q_level w hd he hf (by omega) (by omega)
    have hp : (lvI a b c (k + 1) g != lvI d e f (k + 1) g) = difB a b c d e f k := lv_ne
    have hF : itemV a b c d e f g k = .tup [.int ((k + 1 : Nat) : Int), .int (lvI a b c (k + 1) g), .int (lvI d e f (k + 1) g)] := rfl
    rw [hF]
    generalize lvI a b c (k + 1) g = v1 at *
    generalize lvI d e f (k + 1) g = v2 at *
    generalize difB a b c d e f k = p at *
    generalize ((k + 1 : Nat) : Int) = j at *
    subst hp
    cases hv : (v1 != v2) with
    | true => exact ⟨_, turn_name (cons_den (ite_den (c := true) (cmpT_den (methL_den rfl (by kernel_rfl) rfl l1) (methL_den rfl (by kernel_rfl) rfl l2) (congrArg some hv)) (cons_den (app_den (xs := xs) (b := false) rfl (tup_den (denL_cons0 rfl (denL_cons0 (methL_den (f := false) (g := false) rfl (by kernel_rfl) rfl l1) (denL_cons0 (methL_den (f := false) (g := false) rfl (by kernel_rfl) rfl l2) rfl)))) (by rw [lenOk_le hx]; rfl)) nil_den)) nil_den), .val (.int j), rfl⟩
    | false => exact ⟨_, turn_name (cons_den (ite_den (c := false) (cmpT_den (methL_den rfl (by kernel_rfl) rfl l1) (methL_den rfl (by kernel_rfl) rfl l2) (congrArg some hv)) nil_den) nil_den), .val (.int j), rfl⟩
  · rintro _ ⟨x, rfl⟩
    exact ret_rets rfl
theorem wholes1 (w : World) : tab3.map (fun p => (c_law_wholes w).den [runsV p.1 p.2.1 p.2.2, .int 1]) = tab3.map fun p => some (.int (wh p.1 p.2.1 p.2.2 1 : Nat)) := by kernel_rfl
theorem wholes2 (w : World) : tab3.map (fun p => (c_law_wholes w).den [runsV p.1 p.2.1 p.2.2, .int 2]) = tab3.map fun p => some (.int (wh p.1 p.2.1 p.2.2 2 : Nat)) := by kernel_rfl
theorem wholes3 (w : World) : tab3.map (fun p => (c_law_wholes w).den [runsV p.1 p.2.1 p.2.2, .int 3]) = tab3.map fun p => some (.int (wh p.1 p.2.1 p.2.2 3 : Nat)) := by kernel_rfl
theorem wholes4 (w : World) : tab3.map (fun p => (c_law_wholes w).den [runsV p.1 p.2.1 p.2.2, .int 4]) = tab3.map fun p => some (.int (wh p.1 p.2.1 p.2.2 4 : Nat)) := by kernel_rfl
theorem wholes5 (w : World) : tab3.map (fun p => (c_law_wholes w).den [runsV p.1 p.2.1 p.2.2, .int 5]) = tab3.map fun p => some (.int (wh p.1 p.2.1 p.2.2 5 : Nat)) := by kernel_rfl
theorem q_wholes (w : World) {a b c s : Nat} (ha : a < 6) (hb : b < 6) (hc : c < 6) (h0 : 0 < s) (h1 : s < 6) : (c_law_wholes w).den [runsV a b c, .int (s : Nat)] = some (.int (wh a b c s : Nat)) := by
  have m := mem3 ha hb hc
  match s, h0, h1 with
  | 1, _, _ => have h := tabF (wholes1 w) m; dsimp only at h; exact h
  | 2, _, _ => have h := tabF (wholes2 w) m; dsimp only at h; exact h
  | 3, _, _ => have h := tabF (wholes3 w) m; dsimp only at h; exact h
  | 4, _, _ => have h := tabF (wholes4 w) m; dsimp only at h; exact h
  | 5, _, _ => have h := tabF (wholes5 w) m; dsimp only at h; exact h
abbrev ZF (w : World) (l : List (Str × Int)) : Prop := l.map (fun p => (c_offset_from_tz_string w).den [.str p.1]) = l.map fun p => some (.int p.2)
abbrev ZP (w : World) (l : List (Str × Int)) (k : Nat) : Prop := ((l.drop k).take 4).map (fun p => (c_offset_from_tz_string w).den [.str p.1]) = ((l.drop k).take 4).map fun p => some (.int p.2)
abbrev ZZ (w : World) (m d : Int) (l : List (Str × Int)) : Prop := (List.range 24).map (fun (h : Nat) => (c_law_zone w).den [.int m, .int d, .int h]) = l.map fun p => some (.tup [.str p.1, .int p.2])
abbrev ZM (m : Int) (l : List (Str × Int)) : Prop := l.map (fun p => (p.2.fmod 3600).fdiv 60) = l.map fun _ => m
theorem zstep {w : World} {l : List (Str × Int)} {k : Nat} (a : ZP w l k) (b : ZF w (l.drop (k + 4))) : ZF w (l.drop k) := by
  have e : l.drop k = (l.drop k).take 4 ++ l.drop (k + 4) := by rw [← List.drop_drop, List.take_append_drop]
  unfold ZF
  rw [e, List.map_append, List.map_append, a, b]
theorem zj {w : World} {l : List (Str × Int)} (h : l.drop 24 = []) (a : ZP w l 0) (b : ZP w l 4) (c : ZP w l 8) (d : ZP w l 12) (e : ZP w l 16) (f : ZP w l 20) : ZF w l :=
  zstep a (zstep b (zstep c (zstep d (zstep e (zstep f (by rw [h]; rfl))))))
noncomputable def zl0_0 : List (Str × Int) := [("+00:00", 0), ("+01", 3600), ("+02:00", 7200), ("+03", 10800), ("+04:00", 14400), ("+05", 18000), ("+06:00", 21600), ("+07", 25200), ("+08:00", 28800), ("+09", 32400), ("+10:00", 36000), ("+11", 39600), ("+12:00", 43200), ("+13", 46800), ("+14:00", 50400), ("+15", 54000), ("+16:00", 57600), ("+17", 61200), ("+18:00", 64800), ("+19", 68400), ("+20:00", 72000), ("+21", 75600), ("+22:00", 79200), ("+23", 82800)]
theorem zo0_0a (w : World) : ZP w zl0_0 0 := by kernel_rfl
theorem zo0_0b (w : World) : ZP w zl0_0 4 := by kernel_rfl
theorem zo0_0c (w : World) : ZP w zl0_0 8 := by kernel_rfl
theorem zo0_0d (w : World) : ZP w zl0_0 12 := by kernel_rfl
theorem zo0_0e (w : World) : ZP w zl0_0 16 := by kernel_rfl
theorem zo0_0f (w : World) : ZP w zl0_0 20 := by kernel_rfl
theorem zo0_0 (w : World) : ZF w zl0_0 := zj rfl (zo0_0a w) (zo0_0b w) (zo0_0c w) (zo0_0d w) (zo0_0e w) (zo0_0f w)
theorem zm0_0 : ZM 0 zl0_0 := by decide +kernel
theorem zz0_0 (w : World) : ZZ w 0 0 zl0_0 := by kernel_rfl
noncomputable def zl0_1 : List (Str × Int) := [("000", 0), ("1", 3600), ("200", 7200), ("3", 10800), ("400", 14400), ("5", 18000), ("600", 21600), ("7", 25200), ("800", 28800), ("9", 32400), ("1000", 36000), ("11", 39600), ("1200", 43200), ("13", 46800), ("1400", 50400), ("15", 54000), ("1600", 57600), ("17", 61200), ("1800", 64800), ("19", 68400), ("2000", 72000), ("21", 75600), ("2200", 79200), ("23", 82800)]
theorem zo0_1a (w : World) : ZP w zl0_1 0 := by kernel_rfl
theorem zo0_1b (w : World) : ZP w zl0_1 4 := by kernel_rfl
theorem zo0_1c (w : World) : ZP w zl0_1 8 := by kernel_rfl
theorem zo0_1d (w : World) : ZP w zl0_1 12 := by kernel_rfl
theorem zo0_1e (w : World) : ZP w zl0_1 16 := by kernel_rfl
theorem zo0_1f (w : World) : ZP w zl0_1 20 := by kernel_rfl
theorem zo0_1 (w : World) : ZF w zl0_1 := zj rfl (zo0_1a w) (zo0_1b w) (zo0_1c w) (zo0_1d w) (zo0_1e w) (zo0_1f w)
theorem zm0_1 : ZM 0 zl0_1 := by decide +kernel
theorem zz0_1 (w : World) : ZZ w 0 1 zl0_1 := by kernel_rfl
noncomputable def zl0_2 : List (Str × Int) := [("-0:00", 0), ("-1:", -3600), ("-2:00", -7200), ("-3:", -10800), ("-4:00", -14400), ("-5:", -18000), ("-6:00", -21600), ("-7:", -25200), ("-8:00", -28800), ("-9:", -32400), ("-10:00", -36000), ("-11:", -39600), ("-12:00", -43200), ("-13:", -46800), ("-14:00", -50400), ("-15:", -54000), ("-16:00", -57600), ("-17:", -61200), ("-18:00", -64800), ("-19:", -68400), ("-20:00", -72000), ("-21:", -75600), ("-22:00", -79200), ("-23:", -82800)]
theorem zo0_2a (w : World) : ZP w zl0_2 0 := by kernel_rfl
theorem zo0_2b (w : World) : ZP w zl0_2 4 := by kernel_rfl
theorem zo0_2c (w : World) : ZP w zl0_2 8 := by kernel_rfl
theorem zo0_2d (w : World) : ZP w zl0_2 12 := by kernel_rfl
theorem zo0_2e (w : World) : ZP w zl0_2 16 := by kernel_rfl
theorem zo0_2f (w : World) : ZP w zl0_2 20 := by kernel_rfl
theorem zo0_2 (w : World) : ZF w zl0_2 := zj rfl (zo0_2a w) (zo0_2b w) (zo0_2c w) (zo0_2d w) (zo0_2e w) (zo0_2f w)
theorem zm0_2 : ZM 0 zl0_2 := by decide +kernel
theorem zz0_2 (w : World) : ZZ w 0 2 zl0_2 := by kernel_rfl
noncomputable def zl0_3 : List (Str × Int) := [("GMT", 0), ("UTC", 0), ("UT", 0), ("Z", 0), ("GMT", 0), ("UTC", 0), ("UT", 0), ("Z", 0), ("GMT", 0), ("UTC", 0), ("UT", 0), ("Z", 0), ("GMT", 0), ("UTC", 0), ("UT", 0), ("Z", 0), ("GMT", 0), ("UTC", 0), ("UT", 0), ("Z", 0), ("GMT", 0), ("UTC", 0), ("UT", 0), ("Z", 0)]
theorem zo0_3a (w : World) : ZP w zl0_3 0 := by kernel_rfl
theorem zo0_3b (w : World) : ZP w zl0_3 4 := by kernel_rfl
theorem zo0_3c (w : World) : ZP w zl0_3 8 := by kernel_rfl
theorem zo0_3d (w : World) : ZP w zl0_3 12 := by kernel_rfl
theorem zo0_3e (w : World) : ZP w zl0_3 16 := by kernel_rfl
theorem zo0_3f (w : World) : ZP w zl0_3 20 := by kernel_rfl
theorem zo0_3 (w : World) : ZF w zl0_3 := zj rfl (zo0_3a w) (zo0_3b w) (zo0_3c w) (zo0_3d w) (zo0_3e w) (zo0_3f w)
theorem zm0_3 : ZM 0 zl0_3 := by decide +kernel
theorem zz0_3 (w : World) : ZZ w 0 3 zl0_3 := by kernel_rfl
noncomputable def zl0_4 : List (Str × Int) := [("+0060", 3600), ("+0160", 7200), ("+0260", 10800), ("+0360", 14400), ("+0460", 18000), ("+0560", 21600), ("+0660", 25200), ("+0760", 28800), ("+0860", 32400), ("+0960", 36000), ("+1060", 39600), ("+1160", 43200), ("+1260", 46800), ("+1360", 50400), ("+1460", 54000), ("+1560", 57600), ("+1660", 61200), ("+1760", 64800), ("+1860", 68400), ("+1960", 72000), ("+2060", 75600), ("+2160", 79200), ("+2260", 82800), ("+2360", 86400)]
theorem zo0_4a (w : World) : ZP w zl0_4 0 := by kernel_rfl
theorem zo0_4b (w : World) : ZP w zl0_4 4 := by kernel_rfl
theorem zo0_4c (w : World) : ZP w zl0_4 8 := by kernel_rfl
theorem zo0_4d (w : World) : ZP w zl0_4 12 := by kernel_rfl
theorem zo0_4e (w : World) : ZP w zl0_4 16 := by kernel_rfl
theorem zo0_4f (w : World) : ZP w zl0_4 20 := by kernel_rfl
theorem zo0_4 (w : World) : ZF w zl0_4 := zj rfl (zo0_4a w) (zo0_4b w) (zo0_4c w) (zo0_4d w) (zo0_4e w) (zo0_4f w)
theorem zm0_4 : ZM 0 zl0_4 := by decide +kernel
theorem zz0_4 (w : World) : ZZ w 0 4 zl0_4 := by kernel_rfl
noncomputable def zl12_0 : List (Str × Int) := [("+00:12", 720), ("+01:12", 4320), ("+02:12", 7920), ("+03:12", 11520), ("+04:12", 15120), ("+05:12", 18720), ("+06:12", 22320), ("+07:12", 25920), ("+08:12", 29520), ("+09:12", 33120), ("+10:12", 36720), ("+11:12", 40320), ("+12:12", 43920), ("+13:12", 47520), ("+14:12", 51120), ("+15:12", 54720), ("+16:12", 58320), ("+17:12", 61920), ("+18:12", 65520), ("+19:12", 69120), ("+20:12", 72720), ("+21:12", 76320), ("+22:12", 79920), ("+23:12", 83520)]
theorem zo12_0a (w : World) : ZP w zl12_0 0 := by kernel_rfl
theorem zo12_0b (w : World) : ZP w zl12_0 4 := by kernel_rfl
theorem zo12_0c (w : World) : ZP w zl12_0 8 := by kernel_rfl
theorem zo12_0d (w : World) : ZP w zl12_0 12 := by kernel_rfl
theorem zo12_0e (w : World) : ZP w zl12_0 16 := by kernel_rfl
theorem zo12_0f (w : World) : ZP w zl12_0 20 := by kernel_rfl
theorem zo12_0 (w : World) : ZF w zl12_0 := zj rfl (zo12_0a w) (zo12_0b w) (zo12_0c w) (zo12_0d w) (zo12_0e w) (zo12_0f w)
theorem zm12_0 : ZM 12 zl12_0 := by decide +kernel
theorem zz12_0 (w : World) : ZZ w 12 0 zl12_0 := by kernel_rfl
noncomputable def zl12_1 : List (Str × Int) := [("012", 720), ("112", 4320), ("212", 7920), ("312", 11520), ("412", 15120), ("512", 18720), ("612", 22320), ("712", 25920), ("812", 29520), ("912", 33120), ("1012", 36720), ("1112", 40320), ("1212", 43920), ("1312", 47520), ("1412", 51120), ("1512", 54720), ("1612", 58320), ("1712", 61920), ("1812", 65520), ("1912", 69120), ("2012", 72720), ("2112", 76320), ("2212", 79920), ("2312", 83520)]
theorem zo12_1a (w : World) : ZP w zl12_1 0 := by kernel_rfl
theorem zo12_1b (w : World) : ZP w zl12_1 4 := by kernel_rfl
theorem zo12_1c (w : World) : ZP w zl12_1 8 := by kernel_rfl
theorem zo12_1d (w : World) : ZP w zl12_1 12 := by kernel_rfl
theorem zo12_1e (w : World) : ZP w zl12_1 16 := by kernel_rfl
theorem zo12_1f (w : World) : ZP w zl12_1 20 := by kernel_rfl
theorem zo12_1 (w : World) : ZF w zl12_1 := zj rfl (zo12_1a w) (zo12_1b w) (zo12_1c w) (zo12_1d w) (zo12_1e w) (zo12_1f w)
theorem zm12_1 : ZM 12 zl12_1 := by decide +kernel
theorem zz12_1 (w : World) : ZZ w 12 1 zl12_1 := by kernel_rfl
noncomputable def zl12_2 : List (Str × Int) := [("-0:48", -2880), ("-1:48", -6480), ("-2:48", -10080), ("-3:48", -13680), ("-4:48", -17280), ("-5:48", -20880), ("-6:48", -24480), ("-7:48", -28080), ("-8:48", -31680), ("-9:48", -35280), ("-10:48", -38880), ("-11:48", -42480), ("-12:48", -46080), ("-13:48", -49680), ("-14:48", -53280), ("-15:48", -56880), ("-16:48", -60480), ("-17:48", -64080), ("-18:48", -67680), ("-19:48", -71280), ("-20:48", -74880), ("-21:48", -78480), ("-22:48", -82080), ("-23:48", -85680)]
theorem zo12_2a (w : World) : ZP w zl12_2 0 := by kernel_rfl
theorem zo12_2b (w : World) : ZP w zl12_2 4 := by kernel_rfl
theorem zo12_2c (w : World) : ZP w zl12_2 8 := by kernel_rfl
theorem zo12_2d (w : World) : ZP w zl12_2 12 := by kernel_rfl
theorem zo12_2e (w : World) : ZP w zl12_2 16 := by kernel_rfl
theorem zo12_2f (w : World) : ZP w zl12_2 20 := by kernel_rfl
theorem zo12_2 (w : World) : ZF w zl12_2 := zj rfl (zo12_2a w) (zo12_2b w) (zo12_2c w) (zo12_2d w) (zo12_2e w) (zo12_2f w)
theorem zm12_2 : ZM 12 zl12_2 := by decide +kernel
theorem zz12_2 (w : World) : ZZ w 12 2 zl12_2 := by kernel_rfl
theorem zz12_3 (w : World) : ZZ w 12 3 zl12_0 := by kernel_rfl
noncomputable def zl12_4 : List (Str × Int) := [("+0072", 4320), ("+0172", 7920), ("+0272", 11520), ("+0372", 15120), ("+0472", 18720), ("+0572", 22320), ("+0672", 25920), ("+0772", 29520), ("+0872", 33120), ("+0972", 36720), ("+1072", 40320), ("+1172", 43920), ("+1272", 47520), ("+1372", 51120), ("+1472", 54720), ("+1572", 58320), ("+1672", 61920), ("+1772", 65520), ("+1872", 69120), ("+1972", 72720), ("+2072", 76320), ("+2172", 79920), ("+2272", 83520), ("+2372", 87120)]
theorem zo12_4a (w : World) : ZP w zl12_4 0 := by kernel_rfl
theorem zo12_4b (w : World) : ZP w zl12_4 4 := by kernel_rfl
theorem zo12_4c (w : World) : ZP w zl12_4 8 := by kernel_rfl
theorem zo12_4d (w : World) : ZP w zl12_4 12 := by kernel_rfl
theorem zo12_4e (w : World) : ZP w zl12_4 16 := by kernel_rfl
theorem zo12_4f (w : World) : ZP w zl12_4 20 := by kernel_rfl
theorem zo12_4 (w : World) : ZF w zl12_4 := zj rfl (zo12_4a w) (zo12_4b w) (zo12_4c w) (zo12_4d w) (zo12_4e w) (zo12_4f w)
theorem zm12_4 : ZM 12 zl12_4 := by decide +kernel
theorem zz12_4 (w : World) : ZZ w 12 4 zl12_4 := by kernel_rfl
noncomputable def zl15_0 : List (Str × Int) := [("+00:15", 900), ("+01:15", 4500), ("+02:15", 8100), ("+03:15", 11700), ("+04:15", 15300), ("+05:15", 18900), ("+06:15", 22500), ("+07:15", 26100), ("+08:15", 29700), ("+09:15", 33300), ("+10:15", 36900), ("+11:15", 40500), ("+12:15", 44100), ("+13:15", 47700), ("+14:15", 51300), ("+15:15", 54900), ("+16:15", 58500), ("+17:15", 62100), ("+18:15", 65700), ("+19:15", 69300), ("+20:15", 72900), ("+21:15", 76500), ("+22:15", 80100), ("+23:15", 83700)]
theorem zo15_0a (w : World) : ZP w zl15_0 0 := by kernel_rfl
theorem zo15_0b (w : World) : ZP w zl15_0 4 := by kernel_rfl
theorem zo15_0c (w : World) : ZP w zl15_0 8 := by kernel_rfl
theorem zo15_0d (w : World) : ZP w zl15_0 12 := by kernel_rfl
theorem zo15_0e (w : World) : ZP w zl15_0 16 := by kernel_rfl
theorem zo15_0f (w : World) : ZP w zl15_0 20 := by kernel_rfl
theorem zo15_0 (w : World) : ZF w zl15_0 := zj rfl (zo15_0a w) (zo15_0b w) (zo15_0c w) (zo15_0d w) (zo15_0e w) (zo15_0f w)
theorem zm15_0 : ZM 15 zl15_0 := by decide +kernel
theorem zz15_0 (w : World) : ZZ w 15 0 zl15_0 := by kernel_rfl
noncomputable def zl15_1 : List (Str × Int) := [("015", 900), ("115", 4500), ("215", 8100), ("315", 11700), ("415", 15300), ("515", 18900), ("615", 22500), ("715", 26100), ("815", 29700), ("915", 33300), ("1015", 36900), ("1115", 40500), ("1215", 44100), ("1315", 47700), ("1415", 51300), ("1515", 54900), ("1615", 58500), ("1715", 62100), ("1815", 65700), ("1915", 69300), ("2015", 72900), ("2115", 76500), ("2215", 80100), ("2315", 83700)]
theorem zo15_1a (w : World) : ZP w zl15_1 0 := by kernel_rfl
theorem zo15_1b (w : World) : ZP w zl15_1 4 := by kernel_rfl
theorem zo15_1c (w : World) : ZP w zl15_1 8 := by kernel_rfl
theorem zo15_1d (w : World) : ZP w zl15_1 12 := by kernel_rfl
theorem zo15_1e (w : World) : ZP w zl15_1 16 := by kernel_rfl
theorem zo15_1f (w : World) : ZP w zl15_1 20 := by kernel_rfl
theorem zo15_1 (w : World) : ZF w zl15_1 := zj rfl (zo15_1a w) (zo15_1b w) (zo15_1c w) (zo15_1d w) (zo15_1e w) (zo15_1f w)
theorem zm15_1 : ZM 15 zl15_1 := by decide +kernel
theorem zz15_1 (w : World) : ZZ w 15 1 zl15_1 := by kernel_rfl
noncomputable def zl15_2 : List (Str × Int) := [("-0:45", -2700), ("-1:45", -6300), ("-2:45", -9900), ("-3:45", -13500), ("-4:45", -17100), ("-5:45", -20700), ("-6:45", -24300), ("-7:45", -27900), ("-8:45", -31500), ("-9:45", -35100), ("-10:45", -38700), ("-11:45", -42300), ("-12:45", -45900), ("-13:45", -49500), ("-14:45", -53100), ("-15:45", -56700), ("-16:45", -60300), ("-17:45", -63900), ("-18:45", -67500), ("-19:45", -71100), ("-20:45", -74700), ("-21:45", -78300), ("-22:45", -81900), ("-23:45", -85500)]
theorem zo15_2a (w : World) : ZP w zl15_2 0 := by kernel_rfl
theorem zo15_2b (w : World) : ZP w zl15_2 4 := by kernel_rfl
theorem zo15_2c (w : World) : ZP w zl15_2 8 := by kernel_rfl
theorem zo15_2d (w : World) : ZP w zl15_2 12 := by kernel_rfl
theorem zo15_2e (w : World) : ZP w zl15_2 16 := by kernel_rfl
theorem zo15_2f (w : World) : ZP w zl15_2 20 := by kernel_rfl
theorem zo15_2 (w : World) : ZF w zl15_2 := zj rfl (zo15_2a w) (zo15_2b w) (zo15_2c w) (zo15_2d w) (zo15_2e w) (zo15_2f w)
theorem zm15_2 : ZM 15 zl15_2 := by decide +kernel
theorem zz15_2 (w : World) : ZZ w 15 2 zl15_2 := by kernel_rfl
theorem zz15_3 (w : World) : ZZ w 15 3 zl15_0 := by kernel_rfl
noncomputable def zl15_4 : List (Str × Int) := [("+0075", 4500), ("+0175", 8100), ("+0275", 11700), ("+0375", 15300), ("+0475", 18900), ("+0575", 22500), ("+0675", 26100), ("+0775", 29700), ("+0875", 33300), ("+0975", 36900), ("+1075", 40500), ("+1175", 44100), ("+1275", 47700), ("+1375", 51300), ("+1475", 54900), ("+1575", 58500), ("+1675", 62100), ("+1775", 65700), ("+1875", 69300), ("+1975", 72900), ("+2075", 76500), ("+2175", 80100), ("+2275", 83700), ("+2375", 87300)]
theorem zo15_4a (w : World) : ZP w zl15_4 0 := by kernel_rfl
theorem zo15_4b (w : World) : ZP w zl15_4 4 := by kernel_rfl
theorem zo15_4c (w : World) : ZP w zl15_4 8 := by kernel_rfl
theorem zo15_4d (w : World) : ZP w zl15_4 12 := by kernel_rfl
theorem zo15_4e (w : World) : ZP w zl15_4 16 := by kernel_rfl
theorem zo15_4f (w : World) : ZP w zl15_4 20 := by kernel_rfl
theorem zo15_4 (w : World) : ZF w zl15_4 := zj rfl (zo15_4a w) (zo15_4b w) (zo15_4c w) (zo15_4d w) (zo15_4e w) (zo15_4f w)
theorem zm15_4 : ZM 15 zl15_4 := by decide +kernel
theorem zz15_4 (w : World) : ZZ w 15 4 zl15_4 := by kernel_rfl
noncomputable def zl20_0 : List (Str × Int) := [("+00:20", 1200), ("+01:20", 4800), ("+02:20", 8400), ("+03:20", 12000), ("+04:20", 15600), ("+05:20", 19200), ("+06:20", 22800), ("+07:20", 26400), ("+08:20", 30000), ("+09:20", 33600), ("+10:20", 37200), ("+11:20", 40800), ("+12:20", 44400), ("+13:20", 48000), ("+14:20", 51600), ("+15:20", 55200), ("+16:20", 58800), ("+17:20", 62400), ("+18:20", 66000), ("+19:20", 69600), ("+20:20", 73200), ("+21:20", 76800), ("+22:20", 80400), ("+23:20", 84000)]
theorem zo20_0a (w : World) : ZP w zl20_0 0 := by kernel_rfl
theorem zo20_0b (w : World) : ZP w zl20_0 4 := by kernel_rfl
theorem zo20_0c (w : World) : ZP w zl20_0 8 := by kernel_rfl
theorem zo20_0d (w : World) : ZP w zl20_0 12 := by kernel_rfl
theorem zo20_0e (w : World) : ZP w zl20_0 16 := by kernel_rfl
theorem zo20_0f (w : World) : ZP w zl20_0 20 := by kernel_rfl
theorem zo20_0 (w : World) : ZF w zl20_0 := zj rfl (zo20_0a w) (zo20_0b w) (zo20_0c w) (zo20_0d w) (zo20_0e w) (zo20_0f w)
theorem zm20_0 : ZM 20 zl20_0 := by decide +kernel
theorem zz20_0 (w : World) : ZZ w 20 0 zl20_0 := by kernel_rfl
noncomputable def zl20_1 : List (Str × Int) := [("020", 1200), ("120", 4800), ("220", 8400), ("320", 12000), ("420", 15600), ("520", 19200), ("620", 22800), ("720", 26400), ("820", 30000), ("920", 33600), ("1020", 37200), ("1120", 40800), ("1220", 44400), ("1320", 48000), ("1420", 51600), ("1520", 55200), ("1620", 58800), ("1720", 62400), ("1820", 66000), ("1920", 69600), ("2020", 73200), ("2120", 76800), ("2220", 80400), ("2320", 84000)]
theorem zo20_1a (w : World) : ZP w zl20_1 0 := by kernel_rfl
theorem zo20_1b (w : World) : ZP w zl20_1 4 := by kernel_rfl
theorem zo20_1c (w : World) : ZP w zl20_1 8 := by kernel_rfl
theorem zo20_1d (w : World) : ZP w zl20_1 12 := by kernel_rfl
theorem zo20_1e (w : World) : ZP w zl20_1 16 := by kernel_rfl
theorem zo20_1f (w : World) : ZP w zl20_1 20 := by kernel_rfl
theorem zo20_1 (w : World) : ZF w zl20_1 := zj rfl (zo20_1a w) (zo20_1b w) (zo20_1c w) (zo20_1d w) (zo20_1e w) (zo20_1f w)
theorem zm20_1 : ZM 20 zl20_1 := by decide +kernel
theorem zz20_1 (w : World) : ZZ w 20 1 zl20_1 := by kernel_rfl
noncomputable def zl20_2 : List (Str × Int) := [("-0:40", -2400), ("-1:40", -6000), ("-2:40", -9600), ("-3:40", -13200), ("-4:40", -16800), ("-5:40", -20400), ("-6:40", -24000), ("-7:40", -27600), ("-8:40", -31200), ("-9:40", -34800), ("-10:40", -38400), ("-11:40", -42000), ("-12:40", -45600), ("-13:40", -49200), ("-14:40", -52800), ("-15:40", -56400), ("-16:40", -60000), ("-17:40", -63600), ("-18:40", -67200), ("-19:40", -70800), ("-20:40", -74400), ("-21:40", -78000), ("-22:40", -81600), ("-23:40", -85200)]
theorem zo20_2a (w : World) : ZP w zl20_2 0 := by kernel_rfl
theorem zo20_2b (w : World) : ZP w zl20_2 4 := by kernel_rfl
theorem zo20_2c (w : World) : ZP w zl20_2 8 := by kernel_rfl
theorem zo20_2d (w : World) : ZP w zl20_2 12 := by kernel_rfl
theorem zo20_2e (w : World) : ZP w zl20_2 16 := by kernel_rfl
theorem zo20_2f (w : World) : ZP w zl20_2 20 := by kernel_rfl
theorem zo20_2 (w : World) : ZF w zl20_2 := zj rfl (zo20_2a w) (zo20_2b w) (zo20_2c w) (zo20_2d w) (zo20_2e w) (zo20_2f w)
theorem zm20_2 : ZM 20 zl20_2 := by decide +kernel
theorem zz20_2 (w : World) : ZZ w 20 2 zl20_2 := by kernel_rfl
theorem zz20_3 (w : World) : ZZ w 20 3 zl20_0 := by kernel_rfl
noncomputable def zl20_4 : List (Str × Int) := [("+0080", 4800), ("+0180", 8400), ("+0280", 12000), ("+0380", 15600), ("+0480", 19200), ("+0580", 22800), ("+0680", 26400), ("+0780", 30000), ("+0880", 33600), ("+0980", 37200), ("+1080", 40800), ("+1180", 44400), ("+1280", 48000), ("+1380", 51600), ("+1480", 55200), ("+1580", 58800), ("+1680", 62400), ("+1780", 66000), ("+1880", 69600), ("+1980", 73200), ("+2080", 76800), ("+2180", 80400), ("+2280", 84000), ("+2380", 87600)]
theorem zo20_4a (w : World) : ZP w zl20_4 0 := by kernel_rfl
theorem zo20_4b (w : World) : ZP w zl20_4 4 := by kernel_rfl
theorem zo20_4c (w : World) : ZP w zl20_4 8 := by kernel_rfl
theorem zo20_4d (w : World) : ZP w zl20_4 12 := by kernel_rfl
theorem zo20_4e (w : World) : ZP w zl20_4 16 := by kernel_rfl
theorem zo20_4f (w : World) : ZP w zl20_4 20 := by kernel_rfl
theorem zo20_4 (w : World) : ZF w zl20_4 := zj rfl (zo20_4a w) (zo20_4b w) (zo20_4c w) (zo20_4d w) (zo20_4e w) (zo20_4f w)
theorem zm20_4 : ZM 20 zl20_4 := by decide +kernel
theorem zz20_4 (w : World) : ZZ w 20 4 zl20_4 := by kernel_rfl
noncomputable def zl24_0 : List (Str × Int) := [("+00:24", 1440), ("+01:24", 5040), ("+02:24", 8640), ("+03:24", 12240), ("+04:24", 15840), ("+05:24", 19440), ("+06:24", 23040), ("+07:24", 26640), ("+08:24", 30240), ("+09:24", 33840), ("+10:24", 37440), ("+11:24", 41040), ("+12:24", 44640), ("+13:24", 48240), ("+14:24", 51840), ("+15:24", 55440), ("+16:24", 59040), ("+17:24", 62640), ("+18:24", 66240), ("+19:24", 69840), ("+20:24", 73440), ("+21:24", 77040), ("+22:24", 80640), ("+23:24", 84240)]
theorem zo24_0a (w : World) : ZP w zl24_0 0 := by kernel_rfl
theorem zo24_0b (w : World) : ZP w zl24_0 4 := by kernel_rfl
theorem zo24_0c (w : World) : ZP w zl24_0 8 := by kernel_rfl
theorem zo24_0d (w : World) : ZP w zl24_0 12 := by kernel_rfl
theorem zo24_0e (w : World) : ZP w zl24_0 16 := by kernel_rfl
theorem zo24_0f (w : World) : ZP w zl24_0 20 := by kernel_rfl
theorem zo24_0 (w : World) : ZF w zl24_0 := zj rfl (zo24_0a w) (zo24_0b w) (zo24_0c w) (zo24_0d w) (zo24_0e w) (zo24_0f w)
theorem zm24_0 : ZM 24 zl24_0 := by decide +kernel
theorem zz24_0 (w : World) : ZZ w 24 0 zl24_0 := by kernel_rfl
noncomputable def zl24_1 : List (Str × Int) := [("024", 1440), ("124", 5040), ("224", 8640), ("324", 12240), ("424", 15840), ("524", 19440), ("624", 23040), ("724", 26640), ("824", 30240), ("924", 33840), ("1024", 37440), ("1124", 41040), ("1224", 44640), ("1324", 48240), ("1424", 51840), ("1524", 55440), ("1624", 59040), ("1724", 62640), ("1824", 66240), ("1924", 69840), ("2024", 73440), ("2124", 77040), ("2224", 80640), ("2324", 84240)]
theorem zo24_1a (w : World) : ZP w zl24_1 0 := by kernel_rfl
theorem zo24_1b (w : World) : ZP w zl24_1 4 := by kernel_rfl
theorem zo24_1c (w : World) : ZP w zl24_1 8 := by kernel_rfl
theorem zo24_1d (w : World) : ZP w zl24_1 12 := by kernel_rfl
theorem zo24_1e (w : World) : ZP w zl24_1 16 := by kernel_rfl
theorem zo24_1f (w : World) : ZP w zl24_1 20 := by kernel_rfl
theorem zo24_1 (w : World) : ZF w zl24_1 := zj rfl (zo24_1a w) (zo24_1b w) (zo24_1c w) (zo24_1d w) (zo24_1e w) (zo24_1f w)
theorem zm24_1 : ZM 24 zl24_1 := by decide +kernel
theorem zz24_1 (w : World) : ZZ w 24 1 zl24_1 := by kernel_rfl
noncomputable def zl24_2 : List (Str × Int) := [("-0:36", -2160), ("-1:36", -5760), ("-2:36", -9360), ("-3:36", -12960), ("-4:36", -16560), ("-5:36", -20160), ("-6:36", -23760), ("-7:36", -27360), ("-8:36", -30960), ("-9:36", -34560), ("-10:36", -38160), ("-11:36", -41760), ("-12:36", -45360), ("-13:36", -48960), ("-14:36", -52560), ("-15:36", -56160), ("-16:36", -59760), ("-17:36", -63360), ("-18:36", -66960), ("-19:36", -70560), ("-20:36", -74160), ("-21:36", -77760), ("-22:36", -81360), ("-23:36", -84960)]
theorem zo24_2a (w : World) : ZP w zl24_2 0 := by kernel_rfl
theorem zo24_2b (w : World) : ZP w zl24_2 4 := by kernel_rfl
theorem zo24_2c (w : World) : ZP w zl24_2 8 := by kernel_rfl
theorem zo24_2d (w : World) : ZP w zl24_2 12 := by kernel_rfl
theorem zo24_2e (w : World) : ZP w zl24_2 16 := by kernel_rfl
theorem zo24_2f (w : World) : ZP w zl24_2 20 := by kernel_rfl
theorem zo24_2 (w : World) : ZF w zl24_2 := zj rfl (zo24_2a w) (zo24_2b w) (zo24_2c w) (zo24_2d w) (zo24_2e w) (zo24_2f w)
theorem zm24_2 : ZM 24 zl24_2 := by decide +kernel
theorem zz24_2 (w : World) : ZZ w 24 2 zl24_2 := by kernel_rfl
theorem zz24_3 (w : World) : ZZ w 24 3 zl24_0 := by kernel_rfl
noncomputable def zl24_4 : List (Str × Int) := [("+0084", 5040), ("+0184", 8640), ("+0284", 12240), ("+0384", 15840), ("+0484", 19440), ("+0584", 23040), ("+0684", 26640), ("+0784", 30240), ("+0884", 33840), ("+0984", 37440), ("+1084", 41040), ("+1184", 44640), ("+1284", 48240), ("+1384", 51840), ("+1484", 55440), ("+1584", 59040), ("+1684", 62640), ("+1784", 66240), ("+1884", 69840), ("+1984", 73440), ("+2084", 77040), ("+2184", 80640), ("+2284", 84240), ("+2384", 87840)]
theorem zo24_4a (w : World) : ZP w zl24_4 0 := by kernel_rfl
theorem zo24_4b (w : World) : ZP w zl24_4 4 := by kernel_rfl
theorem zo24_4c (w : World) : ZP w zl24_4 8 := by kernel_rfl
theorem zo24_4d (w : World) : ZP w zl24_4 12 := by kernel_rfl
theorem zo24_4e (w : World) : ZP w zl24_4 16 := by kernel_rfl
theorem zo24_4f (w : World) : ZP w zl24_4 20 := by kernel_rfl
theorem zo24_4 (w : World) : ZF w zl24_4 := zj rfl (zo24_4a w) (zo24_4b w) (zo24_4c w) (zo24_4d w) (zo24_4e w) (zo24_4f w)
theorem zm24_4 : ZM 24 zl24_4 := by decide +kernel
theorem zz24_4 (w : World) : ZZ w 24 4 zl24_4 := by kernel_rfl
noncomputable def zl30_0 : List (Str × Int) := [("+00:30", 1800), ("+01:30", 5400), ("+02:30", 9000), ("+03:30", 12600), ("+04:30", 16200), ("+05:30", 19800), ("+06:30", 23400), ("+07:30", 27000), ("+08:30", 30600), ("+09:30", 34200), ("+10:30", 37800), ("+11:30", 41400), ("+12:30", 45000), ("+13:30", 48600), ("+14:30", 52200), ("+15:30", 55800), ("+16:30", 59400), ("+17:30", 63000), ("+18:30", 66600), ("+19:30", 70200), ("+20:30", 73800), ("+21:30", 77400), ("+22:30", 81000), ("+23:30", 84600)]
theorem zo30_0a (w : World) : ZP w zl30_0 0 := by kernel_rfl
theorem zo30_0b (w : World) : ZP w zl30_0 4 := by kernel_rfl
theorem zo30_0c (w : World) : ZP w zl30_0 8 := by kernel_rfl
theorem zo30_0d (w : World) : ZP w zl30_0 12 := by kernel_rfl
theorem zo30_0e (w : World) : ZP w zl30_0 16 := by kernel_rfl
theorem zo30_0f (w : World) : ZP w zl30_0 20 := by kernel_rfl
theorem zo30_0 (w : World) : ZF w zl30_0 := zj rfl (zo30_0a w) (zo30_0b w) (zo30_0c w) (zo30_0d w) (zo30_0e w) (zo30_0f w)
theorem zm30_0 : ZM 30 zl30_0 := by decide +kernel
theorem zz30_0 (w : World) : ZZ w 30 0 zl30_0 := by kernel_rfl
noncomputable def zl30_1 : List (Str × Int) := [("030", 1800), ("130", 5400), ("230", 9000), ("330", 12600), ("430", 16200), ("530", 19800), ("630", 23400), ("730", 27000), ("830", 30600), ("930", 34200), ("1030", 37800), ("1130", 41400), ("1230", 45000), ("1330", 48600), ("1430", 52200), ("1530", 55800), ("1630", 59400), ("1730", 63000), ("1830", 66600), ("1930", 70200), ("2030", 73800), ("2130", 77400), ("2230", 81000), ("2330", 84600)]
theorem zo30_1a (w : World) : ZP w zl30_1 0 := by kernel_rfl
theorem zo30_1b (w : World) : ZP w zl30_1 4 := by kernel_rfl
theorem zo30_1c (w : World) : ZP w zl30_1 8 := by kernel_rfl
theorem zo30_1d (w : World) : ZP w zl30_1 12 := by kernel_rfl
theorem zo30_1e (w : World) : ZP w zl30_1 16 := by kernel_rfl
theorem zo30_1f (w : World) : ZP w zl30_1 20 := by kernel_rfl
theorem zo30_1 (w : World) : ZF w zl30_1 := zj rfl (zo30_1a w) (zo30_1b w) (zo30_1c w) (zo30_1d w) (zo30_1e w) (zo30_1f w)
theorem zm30_1 : ZM 30 zl30_1 := by decide +kernel
theorem zz30_1 (w : World) : ZZ w 30 1 zl30_1 := by kernel_rfl
noncomputable def zl30_2 : List (Str × Int) := [("-0:30", -1800), ("-1:30", -5400), ("-2:30", -9000), ("-3:30", -12600), ("-4:30", -16200), ("-5:30", -19800), ("-6:30", -23400), ("-7:30", -27000), ("-8:30", -30600), ("-9:30", -34200), ("-10:30", -37800), ("-11:30", -41400), ("-12:30", -45000), ("-13:30", -48600), ("-14:30", -52200), ("-15:30", -55800), ("-16:30", -59400), ("-17:30", -63000), ("-18:30", -66600), ("-19:30", -70200), ("-20:30", -73800), ("-21:30", -77400), ("-22:30", -81000), ("-23:30", -84600)]
theorem zo30_2a (w : World) : ZP w zl30_2 0 := by kernel_rfl
theorem zo30_2b (w : World) : ZP w zl30_2 4 := by kernel_rfl
theorem zo30_2c (w : World) : ZP w zl30_2 8 := by kernel_rfl
theorem zo30_2d (w : World) : ZP w zl30_2 12 := by kernel_rfl
theorem zo30_2e (w : World) : ZP w zl30_2 16 := by kernel_rfl
theorem zo30_2f (w : World) : ZP w zl30_2 20 := by kernel_rfl
theorem zo30_2 (w : World) : ZF w zl30_2 := zj rfl (zo30_2a w) (zo30_2b w) (zo30_2c w) (zo30_2d w) (zo30_2e w) (zo30_2f w)
theorem zm30_2 : ZM 30 zl30_2 := by decide +kernel
theorem zz30_2 (w : World) : ZZ w 30 2 zl30_2 := by kernel_rfl
theorem zz30_3 (w : World) : ZZ w 30 3 zl30_0 := by kernel_rfl
noncomputable def zl30_4 : List (Str × Int) := [("+0090", 5400), ("+0190", 9000), ("+0290", 12600), ("+0390", 16200), ("+0490", 19800), ("+0590", 23400), ("+0690", 27000), ("+0790", 30600), ("+0890", 34200), ("+0990", 37800), ("+1090", 41400), ("+1190", 45000), ("+1290", 48600), ("+1390", 52200), ("+1490", 55800), ("+1590", 59400), ("+1690", 63000), ("+1790", 66600), ("+1890", 70200), ("+1990", 73800), ("+2090", 77400), ("+2190", 81000), ("+2290", 84600), ("+2390", 88200)]
theorem zo30_4a (w : World) : ZP w zl30_4 0 := by kernel_rfl
theorem zo30_4b (w : World) : ZP w zl30_4 4 := by kernel_rfl
theorem zo30_4c (w : World) : ZP w zl30_4 8 := by kernel_rfl
theorem zo30_4d (w : World) : ZP w zl30_4 12 := by kernel_rfl
theorem zo30_4e (w : World) : ZP w zl30_4 16 := by kernel_rfl
theorem zo30_4f (w : World) : ZP w zl30_4 20 := by kernel_rfl
theorem zo30_4 (w : World) : ZF w zl30_4 := zj rfl (zo30_4a w) (zo30_4b w) (zo30_4c w) (zo30_4d w) (zo30_4e w) (zo30_4f w)
theorem zm30_4 : ZM 30 zl30_4 := by decide +kernel
theorem zz30_4 (w : World) : ZZ w 30 4 zl30_4 := by kernel_rfl
noncomputable def zl36_0 : List (Str × Int) := [("+00:36", 2160), ("+01:36", 5760), ("+02:36", 9360), ("+03:36", 12960), ("+04:36", 16560), ("+05:36", 20160), ("+06:36", 23760), ("+07:36", 27360), ("+08:36", 30960), ("+09:36", 34560), ("+10:36", 38160), ("+11:36", 41760), ("+12:36", 45360), ("+13:36", 48960), ("+14:36", 52560), ("+15:36", 56160), ("+16:36", 59760), ("+17:36", 63360), ("+18:36", 66960), ("+19:36", 70560), ("+20:36", 74160), ("+21:36", 77760), ("+22:36", 81360), ("+23:36", 84960)]
theorem zo36_0a (w : World) : ZP w zl36_0 0 := by kernel_rfl
theorem zo36_0b (w : World) : ZP w zl36_0 4 := by kernel_rfl
theorem zo36_0c (w : World) : ZP w zl36_0 8 := by kernel_rfl
theorem zo36_0d (w : World) : ZP w zl36_0 12 := by kernel_rfl
theorem zo36_0e (w : World) : ZP w zl36_0 16 := by kernel_rfl
theorem zo36_0f (w : World) : ZP w zl36_0 20 := by kernel_rfl
theorem zo36_0 (w : World) : ZF w zl36_0 := zj rfl (zo36_0a w) (zo36_0b w) (zo36_0c w) (zo36_0d w) (zo36_0e w) (zo36_0f w)
theorem zm36_0 : ZM 36 zl36_0 := by decide +kernel
theorem zz36_0 (w : World) : ZZ w 36 0 zl36_0 := by kernel_rfl
noncomputable def zl36_1 : List (Str × Int) := [("036", 2160), ("136", 5760), ("236", 9360), ("336", 12960), ("436", 16560), ("536", 20160), ("636", 23760), ("736", 27360), ("836", 30960), ("936", 34560), ("1036", 38160), ("1136", 41760), ("1236", 45360), ("1336", 48960), ("1436", 52560), ("1536", 56160), ("1636", 59760), ("1736", 63360), ("1836", 66960), ("1936", 70560), ("2036", 74160), ("2136", 77760), ("2236", 81360), ("2336", 84960)]
theorem zo36_1a (w : World) : ZP w zl36_1 0 := by kernel_rfl
theorem zo36_1b (w : World) : ZP w zl36_1 4 := by kernel_rfl
theorem zo36_1c (w : World) : ZP w zl36_1 8 := by kernel_rfl
theorem zo36_1d (w : World) : ZP w zl36_1 12 := by kernel_rfl
theorem zo36_1e (w : World) : ZP w zl36_1 16 := by kernel_rfl
theorem zo36_1f (w : World) : ZP w zl36_1 20 := by kernel_rfl
theorem zo36_1 (w : World) : ZF w zl36_1 := zj rfl (zo36_1a w) (zo36_1b w) (zo36_1c w) (zo36_1d w) (zo36_1e w) (zo36_1f w)
theorem zm36_1 : ZM 36 zl36_1 := by decide +kernel
theorem zz36_1 (w : World) : ZZ w 36 1 zl36_1 := by kernel_rfl
noncomputable def zl36_2 : List (Str × Int) := [("-0:24", -1440), ("-1:24", -5040), ("-2:24", -8640), ("-3:24", -12240), ("-4:24", -15840), ("-5:24", -19440), ("-6:24", -23040), ("-7:24", -26640), ("-8:24", -30240), ("-9:24", -33840), ("-10:24", -37440), ("-11:24", -41040), ("-12:24", -44640), ("-13:24", -48240), ("-14:24", -51840), ("-15:24", -55440), ("-16:24", -59040), ("-17:24", -62640), ("-18:24", -66240), ("-19:24", -69840), ("-20:24", -73440), ("-21:24", -77040), ("-22:24", -80640), ("-23:24", -84240)]
theorem zo36_2a (w : World) : ZP w zl36_2 0 := by kernel_rfl
theorem zo36_2b (w : World) : ZP w zl36_2 4 := by kernel_rfl
theorem zo36_2c (w : World) : ZP w zl36_2 8 := by kernel_rfl
theorem zo36_2d (w : World) : ZP w zl36_2 12 := by kernel_rfl
theorem zo36_2e (w : World) : ZP w zl36_2 16 := by kernel_rfl
theorem zo36_2f (w : World) : ZP w zl36_2 20 := by kernel_rfl
theorem zo36_2 (w : World) : ZF w zl36_2 := zj rfl (zo36_2a w) (zo36_2b w) (zo36_2c w) (zo36_2d w) (zo36_2e w) (zo36_2f w)
theorem zm36_2 : ZM 36 zl36_2 := by decide +kernel
theorem zz36_2 (w : World) : ZZ w 36 2 zl36_2 := by kernel_rfl
theorem zz36_3 (w : World) : ZZ w 36 3 zl36_0 := by kernel_rfl
noncomputable def zl36_4 : List (Str × Int) := [("+0096", 5760), ("+0196", 9360), ("+0296", 12960), ("+0396", 16560), ("+0496", 20160), ("+0596", 23760), ("+0696", 27360), ("+0796", 30960), ("+0896", 34560), ("+0996", 38160), ("+1096", 41760), ("+1196", 45360), ("+1296", 48960), ("+1396", 52560), ("+1496", 56160), ("+1596", 59760), ("+1696", 63360), ("+1796", 66960), ("+1896", 70560), ("+1996", 74160), ("+2096", 77760), ("+2196", 81360), ("+2296", 84960), ("+2396", 88560)]
theorem zo36_4a (w : World) : ZP w zl36_4 0 := by kernel_rfl
theorem zo36_4b (w : World) : ZP w zl36_4 4 := by kernel_rfl
theorem zo36_4c (w : World) : ZP w zl36_4 8 := by kernel_rfl
theorem zo36_4d (w : World) : ZP w zl36_4 12 := by kernel_rfl
theorem zo36_4e (w : World) : ZP w zl36_4 16 := by kernel_rfl
theorem zo36_4f (w : World) : ZP w zl36_4 20 := by kernel_rfl
theorem zo36_4 (w : World) : ZF w zl36_4 := zj rfl (zo36_4a w) (zo36_4b w) (zo36_4c w) (zo36_4d w) (zo36_4e w) (zo36_4f w)
theorem zm36_4 : ZM 36 zl36_4 := by decide +kernel
theorem zz36_4 (w : World) : ZZ w 36 4 zl36_4 := by kernel_rfl
noncomputable def zl40_0 : List (Str × Int) := [("+00:40", 2400), ("+01:40", 6000), ("+02:40", 9600), ("+03:40", 13200), ("+04:40", 16800), ("+05:40", 20400), ("+06:40", 24000), ("+07:40", 27600), ("+08:40", 31200), ("+09:40", 34800), ("+10:40", 38400), ("+11:40", 42000), ("+12:40", 45600), ("+13:40", 49200), ("+14:40", 52800), ("+15:40", 56400), ("+16:40", 60000), ("+17:40", 63600), ("+18:40", 67200), ("+19:40", 70800), ("+20:40", 74400), ("+21:40", 78000), ("+22:40", 81600), ("+23:40", 85200)]
theorem zo40_0a (w : World) : ZP w zl40_0 0 := by kernel_rfl
theorem zo40_0b (w : World) : ZP w zl40_0 4 := by kernel_rfl
theorem zo40_0c (w : World) : ZP w zl40_0 8 := by kernel_rfl
theorem zo40_0d (w : World) : ZP w zl40_0 12 := by kernel_rfl
theorem zo40_0e (w : World) : ZP w zl40_0 16 := by kernel_rfl
theorem zo40_0f (w : World) : ZP w zl40_0 20 := by kernel_rfl
theorem zo40_0 (w : World) : ZF w zl40_0 := zj rfl (zo40_0a w) (zo40_0b w) (zo40_0c w) (zo40_0d w) (zo40_0e w) (zo40_0f w)
theorem zm40_0 : ZM 40 zl40_0 := by decide +kernel
theorem zz40_0 (w : World) : ZZ w 40 0 zl40_0 := by kernel_rfl
noncomputable def zl40_1 : List (Str × Int) := [("040", 2400), ("140", 6000), ("240", 9600), ("340", 13200), ("440", 16800), ("540", 20400), ("640", 24000), ("740", 27600), ("840", 31200), ("940", 34800), ("1040", 38400), ("1140", 42000), ("1240", 45600), ("1340", 49200), ("1440", 52800), ("1540", 56400), ("1640", 60000), ("1740", 63600), ("1840", 67200), ("1940", 70800), ("2040", 74400), ("2140", 78000), ("2240", 81600), ("2340", 85200)]
theorem zo40_1a (w : World) : ZP w zl40_1 0 := by kernel_rfl
theorem zo40_1b (w : World) : ZP w zl40_1 4 := by kernel_rfl
theorem zo40_1c (w : World) : ZP w zl40_1 8 := by kernel_rfl
theorem zo40_1d (w : World) : ZP w zl40_1 12 := by kernel_rfl
theorem zo40_1e (w : World) : ZP w zl40_1 16 := by kernel_rfl
theorem zo40_1f (w : World) : ZP w zl40_1 20 := by kernel_rfl
theorem zo40_1 (w : World) : ZF w zl40_1 := zj rfl (zo40_1a w) (zo40_1b w) (zo40_1c w) (zo40_1d w) (zo40_1e w) (zo40_1f w)
theorem zm40_1 : ZM 40 zl40_1 := by decide +kernel
theorem zz40_1 (w : World) : ZZ w 40 1 zl40_1 := by kernel_rfl
noncomputable def zl40_2 : List (Str × Int) := [("-0:20", -1200), ("-1:20", -4800), ("-2:20", -8400), ("-3:20", -12000), ("-4:20", -15600), ("-5:20", -19200), ("-6:20", -22800), ("-7:20", -26400), ("-8:20", -30000), ("-9:20", -33600), ("-10:20", -37200), ("-11:20", -40800), ("-12:20", -44400), ("-13:20", -48000), ("-14:20", -51600), ("-15:20", -55200), ("-16:20", -58800), ("-17:20", -62400), ("-18:20", -66000), ("-19:20", -69600), ("-20:20", -73200), ("-21:20", -76800), ("-22:20", -80400), ("-23:20", -84000)]
theorem zo40_2a (w : World) : ZP w zl40_2 0 := by kernel_rfl
theorem zo40_2b (w : World) : ZP w zl40_2 4 := by kernel_rfl
theorem zo40_2c (w : World) : ZP w zl40_2 8 := by kernel_rfl
theorem zo40_2d (w : World) : ZP w zl40_2 12 := by kernel_rfl
theorem zo40_2e (w : World) : ZP w zl40_2 16 := by kernel_rfl
theorem zo40_2f (w : World) : ZP w zl40_2 20 := by kernel_rfl
theorem zo40_2 (w : World) : ZF w zl40_2 := zj rfl (zo40_2a w) (zo40_2b w) (zo40_2c w) (zo40_2d w) (zo40_2e w) (zo40_2f w)
theorem zm40_2 : ZM 40 zl40_2 := by decide +kernel
theorem zz40_2 (w : World) : ZZ w 40 2 zl40_2 := by kernel_rfl
theorem zz40_3 (w : World) : ZZ w 40 3 zl40_0 := by kernel_rfl
theorem zz40_4 (w : World) : ZZ w 40 4 zl40_0 := by kernel_rfl
noncomputable def zl45_0 : List (Str × Int) := [("+00:45", 2700), ("+01:45", 6300), ("+02:45", 9900), ("+03:45", 13500), ("+04:45", 17100), ("+05:45", 20700), ("+06:45", 24300), ("+07:45", 27900), ("+08:45", 31500), ("+09:45", 35100), ("+10:45", 38700), ("+11:45", 42300), ("+12:45", 45900), ("+13:45", 49500), ("+14:45", 53100), ("+15:45", 56700), ("+16:45", 60300), ("+17:45", 63900), ("+18:45", 67500), ("+19:45", 71100), ("+20:45", 74700), ("+21:45", 78300), ("+22:45", 81900), ("+23:45", 85500)]
theorem zo45_0a (w : World) : ZP w zl45_0 0 := by kernel_rfl
theorem zo45_0b (w : World) : ZP w zl45_0 4 := by kernel_rfl
theorem zo45_0c (w : World) : ZP w zl45_0 8 := by kernel_rfl
theorem zo45_0d (w : World) : ZP w zl45_0 12 := by kernel_rfl
theorem zo45_0e (w : World) : ZP w zl45_0 16 := by kernel_rfl
theorem zo45_0f (w : World) : ZP w zl45_0 20 := by kernel_rfl
theorem zo45_0 (w : World) : ZF w zl45_0 := zj rfl (zo45_0a w) (zo45_0b w) (zo45_0c w) (zo45_0d w) (zo45_0e w) (zo45_0f w)
theorem zm45_0 : ZM 45 zl45_0 := by decide +kernel
theorem zz45_0 (w : World) : ZZ w 45 0 zl45_0 := by kernel_rfl
noncomputable def zl45_1 : List (Str × Int) := [("045", 2700), ("145", 6300), ("245", 9900), ("345", 13500), ("445", 17100), ("545", 20700), ("645", 24300), ("745", 27900), ("845", 31500), ("945", 35100), ("1045", 38700), ("1145", 42300), ("1245", 45900), ("1345", 49500), ("1445", 53100), ("1545", 56700), ("1645", 60300), ("1745", 63900), ("1845", 67500), ("1945", 71100), ("2045", 74700), ("2145", 78300), ("2245", 81900), ("2345", 85500)]
theorem zo45_1a (w : World) : ZP w zl45_1 0 := by kernel_rfl
theorem zo45_1b (w : World) : ZP w zl45_1 4 := by kernel_rfl
theorem zo45_1c (w : World) : ZP w zl45_1 8 := by kernel_rfl
theorem zo45_1d (w : World) : ZP w zl45_1 12 := by kernel_rfl
theorem zo45_1e (w : World) : ZP w zl45_1 16 := by kernel_rfl
theorem zo45_1f (w : World) : ZP w zl45_1 20 := by kernel_rfl
theorem zo45_1 (w : World) : ZF w zl45_1 := zj rfl (zo45_1a w) (zo45_1b w) (zo45_1c w) (zo45_1d w) (zo45_1e w) (zo45_1f w)
theorem zm45_1 : ZM 45 zl45_1 := by decide +kernel
theorem zz45_1 (w : World) : ZZ w 45 1 zl45_1 := by kernel_rfl
noncomputable def zl45_2 : List (Str × Int) := [("-0:15", -900), ("-1:15", -4500), ("-2:15", -8100), ("-3:15", -11700), ("-4:15", -15300), ("-5:15", -18900), ("-6:15", -22500), ("-7:15", -26100), ("-8:15", -29700), ("-9:15", -33300), ("-10:15", -36900), ("-11:15", -40500), ("-12:15", -44100), ("-13:15", -47700), ("-14:15", -51300), ("-15:15", -54900), ("-16:15", -58500), ("-17:15", -62100), ("-18:15", -65700), ("-19:15", -69300), ("-20:15", -72900), ("-21:15", -76500), ("-22:15", -80100), ("-23:15", -83700)]
theorem zo45_2a (w : World) : ZP w zl45_2 0 := by kernel_rfl
theorem zo45_2b (w : World) : ZP w zl45_2 4 := by kernel_rfl
theorem zo45_2c (w : World) : ZP w zl45_2 8 := by kernel_rfl
theorem zo45_2d (w : World) : ZP w zl45_2 12 := by kernel_rfl
theorem zo45_2e (w : World) : ZP w zl45_2 16 := by kernel_rfl
theorem zo45_2f (w : World) : ZP w zl45_2 20 := by kernel_rfl
theorem zo45_2 (w : World) : ZF w zl45_2 := zj rfl (zo45_2a w) (zo45_2b w) (zo45_2c w) (zo45_2d w) (zo45_2e w) (zo45_2f w)
theorem zm45_2 : ZM 45 zl45_2 := by decide +kernel
theorem zz45_2 (w : World) : ZZ w 45 2 zl45_2 := by kernel_rfl
theorem zz45_3 (w : World) : ZZ w 45 3 zl45_0 := by kernel_rfl
theorem zz45_4 (w : World) : ZZ w 45 4 zl45_0 := by kernel_rfl
noncomputable def zl48_0 : List (Str × Int) := [("+00:48", 2880), ("+01:48", 6480), ("+02:48", 10080), ("+03:48", 13680), ("+04:48", 17280), ("+05:48", 20880), ("+06:48", 24480), ("+07:48", 28080), ("+08:48", 31680), ("+09:48", 35280), ("+10:48", 38880), ("+11:48", 42480), ("+12:48", 46080), ("+13:48", 49680), ("+14:48", 53280), ("+15:48", 56880), ("+16:48", 60480), ("+17:48", 64080), ("+18:48", 67680), ("+19:48", 71280), ("+20:48", 74880), ("+21:48", 78480), ("+22:48", 82080), ("+23:48", 85680)]
theorem zo48_0a (w : World) : ZP w zl48_0 0 := by kernel_rfl
theorem zo48_0b (w : World) : ZP w zl48_0 4 := by kernel_rfl
theorem zo48_0c (w : World) : ZP w zl48_0 8 := by kernel_rfl
theorem zo48_0d (w : World) : ZP w zl48_0 12 := by kernel_rfl
theorem zo48_0e (w : World) : ZP w zl48_0 16 := by kernel_rfl
theorem zo48_0f (w : World) : ZP w zl48_0 20 := by kernel_rfl
theorem zo48_0 (w : World) : ZF w zl48_0 := zj rfl (zo48_0a w) (zo48_0b w) (zo48_0c w) (zo48_0d w) (zo48_0e w) (zo48_0f w)
theorem zm48_0 : ZM 48 zl48_0 := by decide +kernel
theorem zz48_0 (w : World) : ZZ w 48 0 zl48_0 := by kernel_rfl
noncomputable def zl48_1 : List (Str × Int) := [("048", 2880), ("148", 6480), ("248", 10080), ("348", 13680), ("448", 17280), ("548", 20880), ("648", 24480), ("748", 28080), ("848", 31680), ("948", 35280), ("1048", 38880), ("1148", 42480), ("1248", 46080), ("1348", 49680), ("1448", 53280), ("1548", 56880), ("1648", 60480), ("1748", 64080), ("1848", 67680), ("1948", 71280), ("2048", 74880), ("2148", 78480), ("2248", 82080), ("2348", 85680)]
theorem zo48_1a (w : World) : ZP w zl48_1 0 := by kernel_rfl
theorem zo48_1b (w : World) : ZP w zl48_1 4 := by kernel_rfl
theorem zo48_1c (w : World) : ZP w zl48_1 8 := by kernel_rfl
theorem zo48_1d (w : World) : ZP w zl48_1 12 := by kernel_rfl
theorem zo48_1e (w : World) : ZP w zl48_1 16 := by kernel_rfl
theorem zo48_1f (w : World) : ZP w zl48_1 20 := by kernel_rfl
theorem zo48_1 (w : World) : ZF w zl48_1 := zj rfl (zo48_1a w) (zo48_1b w) (zo48_1c w) (zo48_1d w) (zo48_1e w) (zo48_1f w)
theorem zm48_1 : ZM 48 zl48_1 := by decide +kernel
theorem zz48_1 (w : World) : ZZ w 48 1 zl48_1 := by kernel_rfl
noncomputable def zl48_2 : List (Str × Int) := [("-0:12", -720), ("-1:12", -4320), ("-2:12", -7920), ("-3:12", -11520), ("-4:12", -15120), ("-5:12", -18720), ("-6:12", -22320), ("-7:12", -25920), ("-8:12", -29520), ("-9:12", -33120), ("-10:12", -36720), ("-11:12", -40320), ("-12:12", -43920), ("-13:12", -47520), ("-14:12", -51120), ("-15:12", -54720), ("-16:12", -58320), ("-17:12", -61920), ("-18:12", -65520), ("-19:12", -69120), ("-20:12", -72720), ("-21:12", -76320), ("-22:12", -79920), ("-23:12", -83520)]
theorem zo48_2a (w : World) : ZP w zl48_2 0 := by kernel_rfl
theorem zo48_2b (w : World) : ZP w zl48_2 4 := by kernel_rfl
theorem zo48_2c (w : World) : ZP w zl48_2 8 := by kernel_rfl
theorem zo48_2d (w : World) : ZP w zl48_2 12 := by kernel_rfl
theorem zo48_2e (w : World) : ZP w zl48_2 16 := by kernel_rfl
theorem zo48_2f (w : World) : ZP w zl48_2 20 := by kernel_rfl
theorem zo48_2 (w : World) : ZF w zl48_2 := zj rfl (zo48_2a w) (zo48_2b w) (zo48_2c w) (zo48_2d w) (zo48_2e w) (zo48_2f w)
theorem zm48_2 : ZM 48 zl48_2 := by decide +kernel
theorem zz48_2 (w : World) : ZZ w 48 2 zl48_2 := by kernel_rfl
theorem zz48_3 (w : World) : ZZ w 48 3 zl48_0 := by kernel_rfl
theorem zz48_4 (w : World) : ZZ w 48 4 zl48_0 := by kernel_rfl
theorem fm_range (n : Int) {m : Int} (h : 0 < m) : 0 ≤ n.fmod m ∧ n.fmod m < m := ⟨Int.fmod_nonneg_of_pos n h, Int.fmod_lt_of_pos n h⟩
theorem nat_lt {n : Int} {m : Nat} (h : 0 ≤ n ∧ n < (m : Int)) : ∃ k : Nat, n = (k : Int) ∧ k < m := ⟨n.toNat, by omega, by omega⟩
theorem q_others0 (w : World) {a b c : Nat} {n : Int} (h : n.fmod 3 = 0) : (c_law_others w).den [runsV a b c, .int n] = some (runsV c b a) := by
  refine ofDef0_den rfl ?_
  unfold b_law_others
  refine ⟨_, cons_stop (ite_den (c := true) (cmpT_den (x := .int 0) (y := .int 0) (f := false) (g := false) (bin_den (f := false) (g := false) rfl rfl (congrArg (fun k => some (V.int k)) h)) rfl rfl) (cons_stop (ret_den (b := false) ?_)))⟩
  kernel_rfl
theorem q_others1 (w : World) {a b c : Nat} {n : Int} (h : n.fmod 3 = 1) {p : Int} (hp : (n.fdiv 3).fmod 3 = p) {k : Nat} (hk : (n.fdiv 9).fmod 6 = (k : Int)) (h0 : p = 0 ∨ p = 1 ∨ p = 2) : ∃ d e f : Nat, (c_law_others w).den [runsV a b c, .int n] = some (runsV d e f) ∧ (d = a ∨ d = k) ∧ (e = b ∨ e = k) ∧ (f = c ∨ f = k) := by
  have key : ∀ d e f : Nat, (∀ q : XE (u0 w) 1 nm_law_others, q.den [.val (runsV a b c), .val (.int n), .val (.int p)] = some (.int (k : Int), false) → True) → True := fun _ _ _ _ => trivial
  have go : ∀ d e f : Nat, XE.den (XE.bin (u := u0 w) (n := 1) (C := nm_law_others) .Add (XE.bin .Add (XE.slice (XE.loc 0 ⟨149, 15, 149, 19⟩ "ours" .local (by rfl)) Option.none (some (XE.loc 2 ⟨149, 21, 149, 26⟩ "place" .local (by rfl))) Option.none ⟨149, 20, 149, 26⟩ ⟨149, 15, 149, 27⟩) (XE.list [⟨(XE.bin .Mod (XE.bin .FloorDiv (XE.loc 1 ⟨149, 31, 149, 37⟩ "number" .local (by rfl)) (XE.int 9 0 ⟨149, 41, 149, 42⟩) ⟨149, 31, 149, 42⟩) (XE.int 6 0 ⟨149, 45, 149, 46⟩) ⟨149, 31, 149, 46⟩), rfl⟩] ⟨149, 30, 149, 47⟩ (Nat.le_of_ble_eq_true rfl)) ⟨149, 15, 149, 47⟩) (XE.slice (XE.loc 0 ⟨149, 50, 149, 54⟩ "ours" .local (by rfl)) (some (XE.bin .Add (XE.loc 2 ⟨149, 55, 149, 60⟩ "place" .local (by rfl)) (XE.int 1 0 ⟨149, 63, 149, 64⟩) ⟨149, 55, 149, 64⟩)) Option.none Option.none ⟨149, 55, 149, 65⟩ ⟨149, 50, 149, 66⟩) ⟨149, 15, 149, 66⟩) [.val (runsV a b c), .val (.int n), .val (.int p)] = some (runsV d e f, false) → (c_law_others w).den [runsV a b c, .int n] = some (runsV d e f) := by
    intro d e f hr
    refine ofDef0_den rfl ?_
    unfold b_law_others
    refine ⟨_, (cons_den (ite_den (c := false) (cmpT_den (x := .int 1) (y := .int 0) (f := false) (g := false) (bin_den (f := false) (g := false) rfl rfl (congrArg (fun k => some (V.int k)) h)) rfl rfl) rfl) (cons_stop (ite_den (c := true) (cmpT_den (x := .int 1) (y := .int 1) (f := false) (g := false) (bin_den (f := false) (g := false) rfl rfl (congrArg (fun k => some (V.int k)) h)) rfl rfl) (cons_den (assign_den' (b := false) (v := .int p) (bin_den (f := false) (g := false) (bin_den (f := false) (g := false) rfl rfl rfl) rfl (congrArg (fun k => some (V.int k)) hp)) rfl) (cons_stop (ret_den (b := false) hr))))))⟩
  rcases h0 with rfl | rfl | rfl
  · refine ⟨k, b, c, go _ _ _ ?_, .inr rfl, .inl rfl, .inl rfl⟩
    refine Eq.trans (b := some (V.list [.int ((n.fdiv 9).fmod 6), .int b, .int c], false)) (by kernel_rfl) ?_
    rw [hk]
  · refine ⟨a, k, c, go _ _ _ ?_, .inl rfl, .inr rfl, .inl rfl⟩
    refine Eq.trans (b := some (V.list [.int a, .int ((n.fdiv 9).fmod 6), .int c], false)) (by kernel_rfl) ?_
    rw [hk]
  · refine ⟨a, b, k, go _ _ _ ?_, .inl rfl, .inl rfl, .inr rfl⟩
    refine Eq.trans (b := some (V.list [.int a, .int b, .int ((n.fdiv 9).fmod 6)], false)) (by kernel_rfl) ?_
    rw [hk]
theorem q_figures' (w : World) (x : Int) : ∃ a b c : Nat, (c_law_figures w).den [.int x] = some (runsV a b c) ∧ a < 6 ∧ b < 6 ∧ c < 6 := by
  refine sEA (nat_lt (m := 6) (fm_range x (by decide))) fun a ea ha => ?_
  refine sEA (nat_lt (m := 6) (fm_range (x.fdiv 6) (by decide))) fun b eb hb => ?_
  refine sEA (nat_lt (m := 6) (fm_range (x.fdiv 36) (by decide))) fun c ec hc => ?_
  refine ⟨a, b, c, ?_, ha, hb, hc⟩
  rw [q_figures]
  show some (V.list [.int (x.fmod 6), .int ((x.fdiv 6).fmod 6), .int ((x.fdiv 36).fmod 6)]) = some (V.list [.int (a : Int), .int (b : Int), .int (c : Int)])
  rw [← ea, ← eb, ← ec]; rfl
theorem q_others (w : World) {a b c : Nat} (n : Int) (ha : a < 6) (hb : b < 6) (hc : c < 6) : ∃ d e f : Nat, (c_law_others w).den [runsV a b c, .int n] = some (runsV d e f) ∧ d < 6 ∧ e < 6 ∧ f < 6 := by
  have hm := fm_range n (m := 3) (by decide)
  have h3 : n.fmod 3 = 0 ∨ n.fmod 3 = 1 ∨ n.fmod 3 = 2 := by omega
  rcases h3 with h | h | h
  · exact ⟨c, b, a, q_others0 w h, hc, hb, ha⟩
  · have hp := fm_range (n.fdiv 3) (m := 3) (by decide)
    refine sEA (nat_lt (m := 6) (fm_range (n.fdiv 9) (by decide))) fun k ek hk => ?_
    obtain ⟨d, e, f, h1, h2, h3, h4⟩ := q_others1 w (a := a) (b := b) (c := c) h rfl ek (by omega)
    exact ⟨d, e, f, h1, by omega, by omega, by omega⟩
  · obtain ⟨d, e, f, h1, h2, h3, h4⟩ := q_figures' w (n.fdiv 3)
    refine ⟨d, e, f, ?_, h2, h3, h4⟩
    refine ofDef0_den rfl ?_
    unfold b_law_others
    refine ⟨_, (cons_den (ite_den (c := false) (cmpT_den (x := .int 2) (y := .int 0) (f := false) (g := false) (bin_den (f := false) (g := false) rfl rfl (congrArg (fun k => some (V.int k)) h)) rfl rfl) rfl) (cons_den (ite_den (c := false) (cmpT_den (x := .int 2) (y := .int 1) (f := false) (g := false) (bin_den (f := false) (g := false) rfl rfl (congrArg (fun k => some (V.int k)) h)) rfl rfl) rfl) (cons_stop (ret_den (b := false) (callL_den (denL_cons0 (bin_den (f := false) (g := false) rfl rfl rfl) rfl) h1)))))⟩
noncomputable def ZoneOK (w : World) (m : Int) : Prop := ∀ d h : Int, 0 ≤ d → d < 5 → 0 ≤ h → h < 24 → ∃ t due, (c_law_zone w).den [.int m, .int d, .int h] = some (.tup [.str t, .int due]) ∧ (c_offset_from_tz_string w).den [.str t] = some (.int due) ∧ (due.fmod 3600).fdiv 60 = m
noncomputable def mk_tail (w : World) : XS (u0 w) 2 nm_law_marks :=
    (XS.cons
    (X1.assign 13 "place" .local (by rfl) (by decide) (XE.call "bisect_left" (.ref 78) ((c_bisect_left w).lift (by decide)) [⟨(XE.loc 2 ⟨182, 32, 182, 35⟩ "row" .local (by rfl)), rfl⟩, ⟨(XE.loc 12 ⟨182, 37, 182, 41⟩ "mark" .local (by rfl)), rfl⟩] ⟨182, 20, 182, 31⟩ ⟨182, 20, 182, 42⟩ (by rfl) (Keepable.fn (by kernel_rfl)) (by decide +kernel) (by rfl)) ⟨182, 12, 182, 17⟩ ⟨182, 12, 182, 42⟩ (fun _ => rfl))
    (XS.cons
    (X1.ite (XT.cmp .NotEq (XE.slice (XE.loc 2 ⟨183, 15, 183, 18⟩ "row" .local (by rfl)) (some (XE.loc 13 ⟨183, 19, 183, 24⟩ "place" .local (by rfl))) (some (XE.bin .Add (XE.loc 13 ⟨183, 25, 183, 30⟩ "place" .local (by rfl)) (XE.int 1 0 ⟨183, 33, 183, 34⟩) ⟨183, 25, 183, 34⟩)) Option.none ⟨183, 19, 183, 34⟩ ⟨183, 15, 183, 35⟩) (XE.list [⟨(XE.loc 12 ⟨183, 40, 183, 44⟩ "mark" .local (by rfl)), rfl⟩] ⟨183, 39, 183, 45⟩ (Nat.le_of_ble_eq_true rfl)) ⟨183, 15, 183, 45⟩ (by rfl)) (XS.cons
     (X1.insort 2 12 "row" "mark" (by rfl) (by rfl) "insort_right" 60 (c_insort_right w) ⟨184, 29, 184, 32⟩ ⟨184, 34, 184, 38⟩ ⟨184, 16, 184, 28⟩ ⟨184, 16, 184, 39⟩ ⟨184, 16, 184, 39⟩ (by rfl) (Keepable.fn (by kernel_rfl)) (by decide +kernel) (by rfl))
     (XS.cons
     (X1.assign 6 "heavy" .local (by rfl) (by decide) (XE.bin .Add (XE.loc 6 ⟨185, 24, 185, 29⟩ "heavy" .local (by rfl)) (XE.call "_law_weight" (.ref 225) ((c_law_weight w).lift (by decide)) [⟨(XE.loc 1 ⟨185, 44, 185, 49⟩ "cells" .local (by rfl)), rfl⟩, ⟨(XE.loc 12 ⟨185, 51, 185, 55⟩ "mark" .local (by rfl)), rfl⟩] ⟨185, 32, 185, 43⟩ ⟨185, 32, 185, 56⟩ (by rfl) (Keepable.fn (by kernel_rfl)) (by decide +kernel) (by rfl)) ⟨185, 24, 185, 56⟩) ⟨185, 16, 185, 21⟩ ⟨185, 16, 185, 56⟩ (fun _ => rfl))
     XS.nil)) XS.nil ⟨183, 12, 185, 56⟩)
    (XS.cons
    (X1.assign 4 "turn" .local (by rfl) (by decide) (XE.bin .Add (XE.loc 4 ⟨186, 19, 186, 23⟩ "turn" .local (by rfl)) (XE.int 1 0 ⟨186, 26, 186, 27⟩) ⟨186, 19, 186, 27⟩) ⟨186, 12, 186, 16⟩ ⟨186, 12, 186, 27⟩ (fun _ => rfl))
    XS.nil)))
noncomputable def mk_body (w : World) : XS (u0 w) 2 nm_law_marks :=
(XS.cons
    (X1.assign 8 "dress" .local (by rfl) (by decide) (XE.bin .Mod (XE.bin .Add (XE.idx (XE.loc 1 ⟨176, 21, 176, 26⟩ "cells" .local (by rfl)) (XE.int 2 0 ⟨176, 27, 176, 28⟩) ⟨176, 21, 176, 29⟩) (XE.bin .Mult (XE.loc 4 ⟨176, 32, 176, 36⟩ "turn" .local (by rfl)) (XE.loc 4 ⟨176, 39, 176, 43⟩ "turn" .local (by rfl)) ⟨176, 32, 176, 43⟩) ⟨176, 21, 176, 43⟩) (XE.int 5 0 ⟨176, 47, 176, 48⟩) ⟨176, 20, 176, 48⟩) ⟨176, 12, 176, 17⟩ ⟨176, 12, 176, 48⟩ (fun _ => rfl))
    (XS.cons
    (X1.assignT (XG.tup [⟨(XG.name 9 "text" .local (by rfl) (by decide) ⟨177, 12, 177, 16⟩), rfl⟩, ⟨(XG.name 10 "due" .local (by rfl) (by decide) ⟨177, 18, 177, 21⟩), rfl⟩] 0 ⟨177, 12, 177, 21⟩) (XE.call "_law_zone" (.ref 218) ((c_law_zone w).lift (by decide)) [⟨(XE.bin .FloorDiv (XE.bin .Mult (XE.int 60 0 ⟨177, 34, 177, 36⟩) (XE.loc 7 ⟨177, 39, 177, 40⟩ "k" .local (by rfl)) ⟨177, 34, 177, 40⟩) (XE.loc 5 ⟨177, 44, 177, 48⟩ "size" .local (by rfl)) ⟨177, 34, 177, 48⟩), rfl⟩, ⟨(XE.loc 8 ⟨177, 50, 177, 55⟩ "dress" .local (by rfl)), rfl⟩, ⟨(XE.bin .Mod (XE.bin .Add (XE.bin .FloorDiv (XE.idx (XE.loc 1 ⟨177, 58, 177, 63⟩ "cells" .local (by rfl)) (XE.int 2 0 ⟨177, 64, 177, 65⟩) ⟨177, 58, 177, 66⟩) (XE.int 5 0 ⟨177, 70, 177, 71⟩) ⟨177, 58, 177, 71⟩) (XE.loc 4 ⟨177, 74, 177, 78⟩ "turn" .local (by rfl)) ⟨177, 58, 177, 78⟩) (XE.int 24 0 ⟨177, 82, 177, 84⟩) ⟨177, 57, 177, 84⟩), rfl⟩] ⟨177, 24, 177, 33⟩ ⟨177, 24, 177, 85⟩ (by rfl) (Keepable.fn (by kernel_rfl)) (by decide +kernel) (by rfl)) ⟨177, 12, 177, 85⟩ (by rfl) (fun _ => rfl) (fun _ => rfl))
    (XS.cons
    (X1.assign 11 "told" .local (by rfl) (by decide) (XE.call "offset_from_tz_string" (.ref 51) ((c_offset_from_tz_string w).lift (by decide)) [⟨(XE.loc 9 ⟨178, 41, 178, 45⟩ "text" .local (by rfl)), rfl⟩] ⟨178, 19, 178, 40⟩ ⟨178, 19, 178, 46⟩ (by rfl) (Keepable.fn (by kernel_rfl)) (by decide +kernel) (by rfl)) ⟨178, 12, 178, 16⟩ ⟨178, 12, 178, 46⟩ (fun _ => rfl))
    (XS.cons
    (X1.ite (XT.cmp .NotEq (XE.loc 11 ⟨179, 15, 179, 19⟩ "told" .local (by rfl)) (XE.loc 10 ⟨179, 23, 179, 26⟩ "due" .local (by rfl)) ⟨179, 15, 179, 26⟩ (by rfl)) (XS.cons
     (X1.ret (XE.tup [⟨(XE.list [] ⟨180, 24, 180, 26⟩ (Nat.le_of_ble_eq_true rfl)), rfl⟩, ⟨(XE.list [] ⟨180, 28, 180, 30⟩ (Nat.le_of_ble_eq_true rfl)), rfl⟩] 0 ⟨180, 23, 180, 31⟩ (Nat.le_of_ble_eq_true rfl)) ⟨180, 16, 180, 31⟩)
     XS.nil) XS.nil ⟨179, 12, 180, 31⟩)
    (XS.cons
    (X1.assign 12 "mark" .local (by rfl) (by decide) (XE.bin .FloorDiv (XE.bin .Mod (XE.loc 11 ⟨181, 19, 181, 23⟩ "told" .local (by rfl)) (XE.int 3600 0 ⟨181, 26, 181, 30⟩) ⟨181, 19, 181, 30⟩) (XE.int 60 0 ⟨181, 34, 181, 36⟩) ⟨181, 19, 181, 36⟩) ⟨181, 12, 181, 16⟩ ⟨181, 12, 181, 36⟩ (fun _ => rfl))
    (mk_tail w))))))
noncomputable def stM (top : SV) (c0 c1 c2 c3 : Int) (row : List V) (q : Bool) (fresh : List V) (t : Int) (s : SV) (heavy : SV) (k x8 x9 x10 x11 x12 x13 : SV) : List SV := [top, .val (cellsV c0 c1 c2 c3), .own true row, .own q fresh, .val (.int t), s, heavy, k, x8, x9, x10, x11, x12, x13]
inductive EndM (top : SV) (c0 c1 c2 c3 : Int) (row : List V) (q : Bool) (fresh : List V) (t : Int) : List SV → Prop
  | mk (s h k y8 y9 y10 y11 y12 y13 : SV) : EndM top c0 c1 c2 c3 row q fresh t (stM top c0 c1 c2 c3 row q fresh t s h k y8 y9 y10 y11 y12 y13)
inductive EndK (top : SV) (c0 c1 c2 c3 : Int) (row : List V) (q : Bool) (fresh : List V) (t : Int) (s h : SV) : List SV → Prop
  | mk (k y8 y9 y10 y11 y12 y13 : SV) : EndK top c0 c1 c2 c3 row q fresh t s h (stM top c0 c1 c2 c3 row q fresh t s h k y8 y9 y10 y11 y12 y13)
theorem EndK.weak {top : SV} {c0 c1 c2 c3 : Int} {row : List V} {q : Bool} {fresh : List V} {t : Int} {s h : SV} {σ : List SV} (x : EndK top c0 c1 c2 c3 row q fresh t s h σ) : EndM top c0 c1 c2 c3 row q fresh t σ := by
  exact match x with | .mk .. => .mk ..
theorem ne_self (a : Int) : cmpop .NotEq (.int a) (.int a) = some false := by
  show some (a != a) = some false
  rw [bne_self_eq_false]
theorem mk_turn (w : World) {top : SV} {c0 c1 c2 c3 : Int} {row row' : List V} {q : Bool} {fresh : List V} {t s k m heavy heavy' : Int} {k0 x8 x9 x10 x11 x12 x13 y13 : SV} (hz : ZoneOK w m) (hm : (60 * k).fdiv s = m) (hs : binop .FloorDiv (.int (60 * k)) (.int s) = some (.int ((60 * k).fdiv s))) (hk : binop .Mult (.int 60) (.int k) = some (.int (60 * k))) (ht : binop .Mult (.int t) (.int t) = some (.int (t * t)))
    (tail : ∀ dr tx due, (mk_tail w).den (stM top c0 c1 c2 c3 row q fresh t (.val (.int s)) (.val (.int heavy)) (.val (.int k)) (.val (.int dr)) (.val (.str tx)) (.val (.int due)) (.val (.int due)) (.val (.int m)) x13) = some (.next, stM top c0 c1 c2 c3 row' q fresh (t + 1) (.val (.int s)) (.val (.int heavy')) (.val (.int k)) (.val (.int dr)) (.val (.str tx)) (.val (.int due)) (.val (.int due)) (.val (.int m)) y13)) :
    Goes (turnD (XG.name (u := u0 w) (n := 2) (C := nm_law_marks) 7 "k" .local (by rfl) (by decide) ⟨175, 12, 175, 13⟩).den (mk_body w).den (.int k) (stM top c0 c1 c2 c3 row q fresh t (.val (.int s)) (.val (.int heavy)) k0 x8 x9 x10 x11 x12 x13)) (EndK top c0 c1 c2 c3 row' q fresh (t + 1) (.val (.int s)) (.val (.int heavy'))) := by
  have h1 := fm_range (c2 + t * t) (m := 5) (by decide)
  have h2 := fm_range (c2.fdiv 5 + t) (m := 24) (by decide)
  refine sEEAA (hz _ _ h1.1 h1.2 h2.1 h2.2) fun tx due z1 z2 z3 => ?_
  refine goes (σ1 := stM top c0 c1 c2 c3 row' q fresh (t + 1) (.val (.int s)) (.val (.int heavy')) (.val (.int k)) (.val (.int ((c2 + t * t).fmod 5))) (.val (.str tx)) (.val (.int due)) (.val (.int due)) (.val (.int m)) y13) (turn_name ?_) ⟨_, _, _, _, _, _, _⟩
  unfold mk_body
  refine cons_den (σ1 := stM top c0 c1 c2 c3 row q fresh t (.val (.int s)) (.val (.int heavy)) (.val (.int k)) (.val (.int ((c2 + t * t).fmod 5))) x9 x10 x11 x12 x13) (assign_den' (b := false) (bin_den (f := false) (g := false) (bin_den (f := false) (g := false) (y := .int (t * t)) rfl (bin_den (f := false) (g := false) rfl rfl ht) rfl) rfl rfl) rfl) ?_
  refine cons_den (σ1 := stM top c0 c1 c2 c3 row q fresh t (.val (.int s)) (.val (.int heavy)) (.val (.int k)) (.val (.int ((c2 + t * t).fmod 5))) (.val (.str tx)) (.val (.int due)) x11 x12 x13) (assignT_den (callL_den (denL_cons0 (bin_den (f := false) (g := false) (bin_den (f := false) (g := false) rfl rfl hk) rfl (hs.trans (by rw [hm]))) (denL_cons0 rfl (denL_cons0 (bin_den (f := false) (g := false) (x := .int (c2.fdiv 5 + t)) (bin_den (f := false) (g := false) (bin_den (f := false) (g := false) rfl rfl rfl) rfl rfl) rfl rfl) rfl))) z1) rfl) ?_
  refine cons_den (σ1 := stM top c0 c1 c2 c3 row q fresh t (.val (.int s)) (.val (.int heavy)) (.val (.int k)) (.val (.int ((c2 + t * t).fmod 5))) (.val (.str tx)) (.val (.int due)) (.val (.int due)) x12 x13) (assign_den' (b := false) (callL_den (denL_cons0 rfl rfl) z2) rfl) ?_
  refine cons_den (ite_den (c := false) (cmpT_den rfl rfl (ne_self due)) nil_den) ?_
  refine cons_den (σ1 := stM top c0 c1 c2 c3 row q fresh t (.val (.int s)) (.val (.int heavy)) (.val (.int k)) (.val (.int ((c2 + t * t).fmod 5))) (.val (.str tx)) (.val (.int due)) (.val (.int due)) (.val (.int m)) x13) (assign_den' (b := false) (bin_den (f := false) (g := false) (x := .int (due.fmod 3600)) (bin_den (f := false) (g := false) rfl rfl rfl) rfl (congrArg (fun k => some (V.int k)) z3)) rfl) ?_
  exact tail _ _ _
noncomputable def mk_outer (w : World) : XS (u0 w) 2 nm_law_marks :=
(XS.cons
   (X1.assign 6 "heavy" .local (by rfl) (by decide) (XE.int 0 0 ⟨174, 16, 174, 17⟩) ⟨174, 8, 174, 13⟩ ⟨174, 8, 174, 17⟩ (fun _ => rfl))
   (XS.cons
   (X1.for_ (XG.name 7 "k" .local (by rfl) (by decide) ⟨175, 12, 175, 13⟩) (fun _ _ => rfl) (XE.callB "range" (.type "range") rangeC [⟨(XE.loc 5 ⟨175, 23, 175, 27⟩ "size" .local (by rfl)), rfl⟩] ⟨175, 17, 175, 22⟩ ⟨175, 17, 175, 28⟩ (by rfl) Keepable.ty (by decide +kernel) (by rfl))  (mk_body w) ⟨175, 8, 186, 27⟩ (fun _ _ => rfl))
   (XS.cons
   (X1.app 3 "fresh" .local (by rfl) ⟨(XE.loc 6 ⟨187, 21, 187, 26⟩ "heavy" .local (by rfl)), rfl⟩ ⟨187, 8, 187, 13⟩ ⟨187, 8, 187, 20⟩ ⟨187, 8, 187, 27⟩ ⟨187, 8, 187, 27⟩ (by rfl))
   XS.nil)))
noncomputable def fr1 (c0 c1 c2 c3 : Int) : Int := (0 + wt c0 c1 c2 c3 0)
noncomputable def fr2 (c0 c1 c2 c3 : Int) : Int := (0 + wt c0 c1 c2 c3 30)
noncomputable def fr3 (c0 c1 c2 c3 : Int) : Int := ((0 + wt c0 c1 c2 c3 20) + wt c0 c1 c2 c3 40)
noncomputable def fr4 (c0 c1 c2 c3 : Int) : Int := ((0 + wt c0 c1 c2 c3 15) + wt c0 c1 c2 c3 45)
noncomputable def fr5 (c0 c1 c2 c3 : Int) : Int := ((((0 + wt c0 c1 c2 c3 12) + wt c0 c1 c2 c3 24) + wt c0 c1 c2 c3 36) + wt c0 c1 c2 c3 48)
theorem mk_size1 (w : World) (Z : ∀ m : Int, m ∈ ([0, 12, 15, 20, 24, 30, 36, 40, 45, 48] : List Int) → ZoneOK w m) {top : SV} {c0 c1 c2 c3 : Int} {fresh : List V} (hf : fresh.length ≤ 1000) {s0 heavy k0 x8 x9 x10 x11 x12 x13 : SV} :
    Goes (turnD (XG.name (u := u0 w) (n := 2) (C := nm_law_marks) 5 "size" .local (by rfl) (by decide) ⟨173, 8, 173, 12⟩).den (mk_outer w).den (.int 1) (stM top c0 c1 c2 c3 [] true fresh 0 s0 heavy k0 x8 x9 x10 x11 x12 x13)) (EndM top c0 c1 c2 c3 [.int 0] true (fresh ++ [.int (fr1 c0 c1 c2 c3)]) 1) := by
  refine Goes.imp (P := EndK top c0 c1 c2 c3 [.int 0] true (fresh ++ [.int (fr1 c0 c1 c2 c3)]) 1 (.val (.int 1)) (.val (.int (fr1 c0 c1 c2 c3)))) ?_ (fun _ q => q.weak)
  show Goes ((mk_outer w).den (stM top c0 c1 c2 c3 [] true fresh 0 (.val (.int 1)) heavy k0 x8 x9 x10 x11 x12 x13)) _
  unfold mk_outer
  refine cons_step (stM top c0 c1 c2 c3 [] true fresh 0 (.val (.int 1)) (.val (.int 0)) k0 x8 x9 x10 x11 x12 x13) rfl ?_
  refine cons_goes2 (P := EndK top c0 c1 c2 c3 [.int 0] true fresh 1 (.val (.int 1)) (.val (.int (fr1 c0 c1 c2 c3)))) (for_goes (v := .rng 0 1) (xs := [.int 0]) (by kernel_rfl) (by kernel_rfl) ?_) ?_
  · refine loop_goes (mk_turn w (row' := [.int 0]) (heavy' := (0 + wt c0 c1 c2 c3 0)) (y13 := .val (.int 0)) (Z 0 (by decide)) (by decide) (by kernel_rfl) (by kernel_rfl) (by kernel_rfl) (fun dr tx due => by kernel_rfl)) ?_
    rintro _ ⟨_, _, _, _, _, _, _⟩
    exact loop_done ⟨_, _, _, _, _, _, _⟩
  · rintro _ ⟨_, _, _, _, _, _, _⟩
    exact ⟨_, cons_den (app_den (xs := fresh) (v := .int (fr1 c0 c1 c2 c3)) (b := false) rfl rfl (by rw [lenOk_le hf]; rfl)) nil_den, _, _, _, _, _, _, _⟩
theorem mk_size2 (w : World) (Z : ∀ m : Int, m ∈ ([0, 12, 15, 20, 24, 30, 36, 40, 45, 48] : List Int) → ZoneOK w m) {top : SV} {c0 c1 c2 c3 : Int} {fresh : List V} (hf : fresh.length ≤ 1000) {s0 heavy k0 x8 x9 x10 x11 x12 x13 : SV} :
    Goes (turnD (XG.name (u := u0 w) (n := 2) (C := nm_law_marks) 5 "size" .local (by rfl) (by decide) ⟨173, 8, 173, 12⟩).den (mk_outer w).den (.int 2) (stM top c0 c1 c2 c3 [.int 0] true fresh 1 s0 heavy k0 x8 x9 x10 x11 x12 x13)) (EndM top c0 c1 c2 c3 [.int 0, .int 30] true (fresh ++ [.int (fr2 c0 c1 c2 c3)]) 3) := by
  refine Goes.imp (P := EndK top c0 c1 c2 c3 [.int 0, .int 30] true (fresh ++ [.int (fr2 c0 c1 c2 c3)]) 3 (.val (.int 2)) (.val (.int (fr2 c0 c1 c2 c3)))) ?_ (fun _ q => q.weak)
  show Goes ((mk_outer w).den (stM top c0 c1 c2 c3 [.int 0] true fresh 1 (.val (.int 2)) heavy k0 x8 x9 x10 x11 x12 x13)) _
  unfold mk_outer
  refine cons_step (stM top c0 c1 c2 c3 [.int 0] true fresh 1 (.val (.int 2)) (.val (.int 0)) k0 x8 x9 x10 x11 x12 x13) rfl ?_
  refine cons_goes2 (P := EndK top c0 c1 c2 c3 [.int 0, .int 30] true fresh 3 (.val (.int 2)) (.val (.int (fr2 c0 c1 c2 c3)))) (for_goes (v := .rng 0 2) (xs := [.int 0, .int 1]) (by kernel_rfl) (by kernel_rfl) ?_) ?_
  · refine loop_goes (mk_turn w (row' := [.int 0]) (heavy' := 0) (y13 := .val (.int 0)) (Z 0 (by decide)) (by decide) (by kernel_rfl) (by kernel_rfl) (by kernel_rfl) (fun dr tx due => by kernel_rfl)) ?_
    rintro _ ⟨_, _, _, _, _, _, _⟩
    refine loop_goes (mk_turn w (row' := [.int 0, .int 30]) (heavy' := (0 + wt c0 c1 c2 c3 30)) (y13 := .val (.int 1)) (Z 30 (by decide)) (by decide) (by kernel_rfl) (by kernel_rfl) (by kernel_rfl) (fun dr tx due => by kernel_rfl)) ?_
    rintro _ ⟨_, _, _, _, _, _, _⟩
    exact loop_done ⟨_, _, _, _, _, _, _⟩
  · rintro _ ⟨_, _, _, _, _, _, _⟩
    exact ⟨_, cons_den (app_den (xs := fresh) (v := .int (fr2 c0 c1 c2 c3)) (b := false) rfl rfl (by rw [lenOk_le hf]; rfl)) nil_den, _, _, _, _, _, _, _⟩
theorem mk_size3 (w : World) (Z : ∀ m : Int, m ∈ ([0, 12, 15, 20, 24, 30, 36, 40, 45, 48] : List Int) → ZoneOK w m) {top : SV} {c0 c1 c2 c3 : Int} {fresh : List V} (hf : fresh.length ≤ 1000) {s0 heavy k0 x8 x9 x10 x11 x12 x13 : SV} :
    Goes (turnD (XG.name (u := u0 w) (n := 2) (C := nm_law_marks) 5 "size" .local (by rfl) (by decide) ⟨173, 8, 173, 12⟩).den (mk_outer w).den (.int 3) (stM top c0 c1 c2 c3 [.int 0, .int 30] true fresh 3 s0 heavy k0 x8 x9 x10 x11 x12 x13)) (EndM top c0 c1 c2 c3 [.int 0, .int 20, .int 30, .int 40] true (fresh ++ [.int (fr3 c0 c1 c2 c3)]) 6) := by
  refine Goes.imp (P := EndK top c0 c1 c2 c3 [.int 0, .int 20, .int 30, .int 40] true (fresh ++ [.int (fr3 c0 c1 c2 c3)]) 6 (.val (.int 3)) (.val (.int (fr3 c0 c1 c2 c3)))) ?_ (fun _ q => q.weak)
  show Goes ((mk_outer w).den (stM top c0 c1 c2 c3 [.int 0, .int 30] true fresh 3 (.val (.int 3)) heavy k0 x8 x9 x10 x11 x12 x13)) _
  unfold mk_outer
  refine cons_step (stM top c0 c1 c2 c3 [.int 0, .int 30] true fresh 3 (.val (.int 3)) (.val (.int 0)) k0 x8 x9 x10 x11 x12 x13) rfl ?_
  refine cons_goes2 (P := EndK top c0 c1 c2 c3 [.int 0, .int 20, .int 30, .int 40] true fresh 6 (.val (.int 3)) (.val (.int (fr3 c0 c1 c2 c3)))) (for_goes (v := .rng 0 3) (xs := [.int 0, .int 1, .int 2]) (by kernel_rfl) (by kernel_rfl) ?_) ?_
  · refine loop_goes (mk_turn w (row' := [.int 0, .int 30]) (heavy' := 0) (y13 := .val (.int 0)) (Z 0 (by decide)) (by decide) (by kernel_rfl) (by kernel_rfl) (by kernel_rfl) (fun dr tx due => by kernel_rfl)) ?_
    rintro _ ⟨_, _, _, _, _, _, _⟩
    refine loop_goes (mk_turn w (row' := [.int 0, .int 20, .int 30]) (heavy' := (0 + wt c0 c1 c2 c3 20)) (y13 := .val (.int 1)) (Z 20 (by decide)) (by decide) (by kernel_rfl) (by kernel_rfl) (by kernel_rfl) (fun dr tx due => by kernel_rfl)) ?_
    rintro _ ⟨_, _, _, _, _, _, _⟩
    refine loop_goes (mk_turn w (row' := [.int 0, .int 20, .int 30, .int 40]) (heavy' := ((0 + wt c0 c1 c2 c3 20) + wt c0 c1 c2 c3 40)) (y13 := .val (.int 3)) (Z 40 (by decide)) (by decide) (by kernel_rfl) (by kernel_rfl) (by kernel_rfl) (fun dr tx due => by kernel_rfl)) ?_
    rintro _ ⟨_, _, _, _, _, _, _⟩
    exact loop_done ⟨_, _, _, _, _, _, _⟩
  · rintro _ ⟨_, _, _, _, _, _, _⟩
    exact ⟨_, cons_den (app_den (xs := fresh) (v := .int (fr3 c0 c1 c2 c3)) (b := false) rfl rfl (by rw [lenOk_le hf]; rfl)) nil_den, _, _, _, _, _, _, _⟩
theorem mk_size4 (w : World) (Z : ∀ m : Int, m ∈ ([0, 12, 15, 20, 24, 30, 36, 40, 45, 48] : List Int) → ZoneOK w m) {top : SV} {c0 c1 c2 c3 : Int} {fresh : List V} (hf : fresh.length ≤ 1000) {s0 heavy k0 x8 x9 x10 x11 x12 x13 : SV} :
    Goes (turnD (XG.name (u := u0 w) (n := 2) (C := nm_law_marks) 5 "size" .local (by rfl) (by decide) ⟨173, 8, 173, 12⟩).den (mk_outer w).den (.int 4) (stM top c0 c1 c2 c3 [.int 0, .int 20, .int 30, .int 40] true fresh 6 s0 heavy k0 x8 x9 x10 x11 x12 x13)) (EndM top c0 c1 c2 c3 [.int 0, .int 15, .int 20, .int 30, .int 40, .int 45] true (fresh ++ [.int (fr4 c0 c1 c2 c3)]) 10) := by
  refine Goes.imp (P := EndK top c0 c1 c2 c3 [.int 0, .int 15, .int 20, .int 30, .int 40, .int 45] true (fresh ++ [.int (fr4 c0 c1 c2 c3)]) 10 (.val (.int 4)) (.val (.int (fr4 c0 c1 c2 c3)))) ?_ (fun _ q => q.weak)
  show Goes ((mk_outer w).den (stM top c0 c1 c2 c3 [.int 0, .int 20, .int 30, .int 40] true fresh 6 (.val (.int 4)) heavy k0 x8 x9 x10 x11 x12 x13)) _
  unfold mk_outer
  refine cons_step (stM top c0 c1 c2 c3 [.int 0, .int 20, .int 30, .int 40] true fresh 6 (.val (.int 4)) (.val (.int 0)) k0 x8 x9 x10 x11 x12 x13) rfl ?_
  refine cons_goes2 (P := EndK top c0 c1 c2 c3 [.int 0, .int 15, .int 20, .int 30, .int 40, .int 45] true fresh 10 (.val (.int 4)) (.val (.int (fr4 c0 c1 c2 c3)))) (for_goes (v := .rng 0 4) (xs := [.int 0, .int 1, .int 2, .int 3]) (by kernel_rfl) (by kernel_rfl) ?_) ?_
  · refine loop_goes (mk_turn w (row' := [.int 0, .int 20, .int 30, .int 40]) (heavy' := 0) (y13 := .val (.int 0)) (Z 0 (by decide)) (by decide) (by kernel_rfl) (by kernel_rfl) (by kernel_rfl) (fun dr tx due => by kernel_rfl)) ?_
    rintro _ ⟨_, _, _, _, _, _, _⟩
    refine loop_goes (mk_turn w (row' := [.int 0, .int 15, .int 20, .int 30, .int 40]) (heavy' := (0 + wt c0 c1 c2 c3 15)) (y13 := .val (.int 1)) (Z 15 (by decide)) (by decide) (by kernel_rfl) (by kernel_rfl) (by kernel_rfl) (fun dr tx due => by kernel_rfl)) ?_
    rintro _ ⟨_, _, _, _, _, _, _⟩
    refine loop_goes (mk_turn w (row' := [.int 0, .int 15, .int 20, .int 30, .int 40]) (heavy' := (0 + wt c0 c1 c2 c3 15)) (y13 := .val (.int 3)) (Z 30 (by decide)) (by decide) (by kernel_rfl) (by kernel_rfl) (by kernel_rfl) (fun dr tx due => by kernel_rfl)) ?_
    rintro _ ⟨_, _, _, _, _, _, _⟩
    refine loop_goes (mk_turn w (row' := [.int 0, .int 15, .int 20, .int 30, .int 40, .int 45]) (heavy' := ((0 + wt c0 c1 c2 c3 15) + wt c0 c1 c2 c3 45)) (y13 := .val (.int 5)) (Z 45 (by decide)) (by decide) (by kernel_rfl) (by kernel_rfl) (by kernel_rfl) (fun dr tx due => by kernel_rfl)) ?_
    rintro _ ⟨_, _, _, _, _, _, _⟩
    exact loop_done ⟨_, _, _, _, _, _, _⟩
  · rintro _ ⟨_, _, _, _, _, _, _⟩
    exact ⟨_, cons_den (app_den (xs := fresh) (v := .int (fr4 c0 c1 c2 c3)) (b := false) rfl rfl (by rw [lenOk_le hf]; rfl)) nil_den, _, _, _, _, _, _, _⟩
theorem mk_size5 (w : World) (Z : ∀ m : Int, m ∈ ([0, 12, 15, 20, 24, 30, 36, 40, 45, 48] : List Int) → ZoneOK w m) {top : SV} {c0 c1 c2 c3 : Int} {fresh : List V} (hf : fresh.length ≤ 1000) {s0 heavy k0 x8 x9 x10 x11 x12 x13 : SV} :
    Goes (turnD (XG.name (u := u0 w) (n := 2) (C := nm_law_marks) 5 "size" .local (by rfl) (by decide) ⟨173, 8, 173, 12⟩).den (mk_outer w).den (.int 5) (stM top c0 c1 c2 c3 [.int 0, .int 15, .int 20, .int 30, .int 40, .int 45] true fresh 10 s0 heavy k0 x8 x9 x10 x11 x12 x13)) (EndM top c0 c1 c2 c3 [.int 0, .int 12, .int 15, .int 20, .int 24, .int 30, .int 36, .int 40, .int 45, .int 48] true (fresh ++ [.int (fr5 c0 c1 c2 c3)]) 15) := by
  refine Goes.imp (P := EndK top c0 c1 c2 c3 [.int 0, .int 12, .int 15, .int 20, .int 24, .int 30, .int 36, .int 40, .int 45, .int 48] true (fresh ++ [.int (fr5 c0 c1 c2 c3)]) 15 (.val (.int 5)) (.val (.int (fr5 c0 c1 c2 c3)))) ?_ (fun _ q => q.weak)
  show Goes ((mk_outer w).den (stM top c0 c1 c2 c3 [.int 0, .int 15, .int 20, .int 30, .int 40, .int 45] true fresh 10 (.val (.int 5)) heavy k0 x8 x9 x10 x11 x12 x13)) _
  unfold mk_outer
  refine cons_step (stM top c0 c1 c2 c3 [.int 0, .int 15, .int 20, .int 30, .int 40, .int 45] true fresh 10 (.val (.int 5)) (.val (.int 0)) k0 x8 x9 x10 x11 x12 x13) rfl ?_
  refine cons_goes2 (P := EndK top c0 c1 c2 c3 [.int 0, .int 12, .int 15, .int 20, .int 24, .int 30, .int 36, .int 40, .int 45, .int 48] true fresh 15 (.val (.int 5)) (.val (.int (fr5 c0 c1 c2 c3)))) (for_goes (v := .rng 0 5) (xs := [.int 0, .int 1, .int 2, .int 3, .int 4]) (by kernel_rfl) (by kernel_rfl) ?_) ?_
  · refine loop_goes (mk_turn w (row' := [.int 0, .int 15, .int 20, .int 30, .int 40, .int 45]) (heavy' := 0) (y13 := .val (.int 0)) (Z 0 (by decide)) (by decide) (by kernel_rfl) (by kernel_rfl) (by kernel_rfl) (fun dr tx due => by kernel_rfl)) ?_
    rintro _ ⟨_, _, _, _, _, _, _⟩
    refine loop_goes (mk_turn w (row' := [.int 0, .int 12, .int 15, .int 20, .int 30, .int 40, .int 45]) (heavy' := (0 + wt c0 c1 c2 c3 12)) (y13 := .val (.int 1)) (Z 12 (by decide)) (by decide) (by kernel_rfl) (by kernel_rfl) (by kernel_rfl) (fun dr tx due => by kernel_rfl)) ?_
    rintro _ ⟨_, _, _, _, _, _, _⟩
    refine loop_goes (mk_turn w (row' := [.int 0, .int 12, .int 15, .int 20, .int 24, .int 30, .int 40, .int 45]) (heavy' := ((0 + wt c0 c1 c2 c3 12) + wt c0 c1 c2 c3 24)) (y13 := .val (.int 4)) (Z 24 (by decide)) (by decide) (by kernel_rfl) (by kernel_rfl) (by kernel_rfl) (fun dr tx due => by kernel_rfl)) ?_
    rintro _ ⟨_, _, _, _, _, _, _⟩
    refine loop_goes (mk_turn w (row' := [.int 0, .int 12, .int 15, .int 20, .int 24, .int 30, .int 36, .int 40, .int 45]) (heavy' := (((0 + wt c0 c1 c2 c3 12) + wt c0 c1 c2 c3 24) + wt c0 c1 c2 c3 36)) (y13 := .val (.int 6)) (Z 36 (by decide)) (by decide) (by kernel_rfl) (by kernel_rfl) (by kernel_rfl) (fun dr tx due => by kernel_rfl)) ?_
    rintro _ ⟨_, _, _, _, _, _, _⟩
    refine loop_goes (mk_turn w (row' := [.int 0, .int 12, .int 15, .int 20, .int 24, .int 30, .int 36, .int 40, .int 45, .int 48]) (heavy' := ((((0 + wt c0 c1 c2 c3 12) + wt c0 c1 c2 c3 24) + wt c0 c1 c2 c3 36) + wt c0 c1 c2 c3 48)) (y13 := .val (.int 9)) (Z 48 (by decide)) (by decide) (by kernel_rfl) (by kernel_rfl) (by kernel_rfl) (fun dr tx due => by kernel_rfl)) ?_
    rintro _ ⟨_, _, _, _, _, _, _⟩
    exact loop_done ⟨_, _, _, _, _, _, _⟩
  · rintro _ ⟨_, _, _, _, _, _, _⟩
    exact ⟨_, cons_den (app_den (xs := fresh) (v := .int (fr5 c0 c1 c2 c3)) (b := false) rfl rfl (by rw [lenOk_le hf]; rfl)) nil_den, _, _, _, _, _, _, _⟩
noncomputable def rowL : Nat → List V
  | 0 => []
  | 1 => [.int 0]
  | 2 => [.int 0, .int 30]
  | 3 => [.int 0, .int 20, .int 30, .int 40]
  | 4 => [.int 0, .int 15, .int 20, .int 30, .int 40, .int 45]
  | _ => [.int 0, .int 12, .int 15, .int 20, .int 24, .int 30, .int 36, .int 40, .int 45, .int 48]
noncomputable def frs (c0 c1 c2 c3 : Int) : Nat → List Int
  | 0 => []
  | 1 => [fr1 c0 c1 c2 c3]
  | 2 => [fr1 c0 c1 c2 c3, fr2 c0 c1 c2 c3]
  | 3 => [fr1 c0 c1 c2 c3, fr2 c0 c1 c2 c3, fr3 c0 c1 c2 c3]
  | 4 => [fr1 c0 c1 c2 c3, fr2 c0 c1 c2 c3, fr3 c0 c1 c2 c3, fr4 c0 c1 c2 c3]
  | _ => [fr1 c0 c1 c2 c3, fr2 c0 c1 c2 c3, fr3 c0 c1 c2 c3, fr4 c0 c1 c2 c3, fr5 c0 c1 c2 c3]
theorem q_marks (w : World) (Z : ∀ m : Int, m ∈ ([0, 12, 15, 20, 24, 30, 36, 40, 45, 48] : List Int) → ZoneOK w m) {c0 c1 c2 c3 : Int} {top : Nat} (ht : top ≤ 5) : (c_law_marks w).den [.int top, cellsV c0 c1 c2 c3] = some (.tup [.list (rowL top), .list ((frs c0 c1 c2 c3 top).map .int)]) := by
  have fin : ∀ (top : Nat) (row : List V) (fresh : List V) (t : Int) (n : Nat), Goes (loopD (XG.name (u := u0 w) (n := 2) (C := nm_law_marks) 5 "size" .local (by rfl) (by decide) ⟨173, 8, 173, 12⟩).den (mk_outer w).den (rngV 1 ((n : Int) + 1)) (stM (.val (.int top)) c0 c1 c2 c3 [] true [] 0 .unset .unset .unset .unset .unset .unset .unset .unset .unset)) (EndM (.val (.int top)) c0 c1 c2 c3 row true fresh t) → n = top → top ≤ 5 → (c_law_marks w).den [.int top, cellsV c0 c1 c2 c3] = some (.tup [.list row, .list fresh]) := by
    intro top row fresh t n h e ht
    subst e
    refine ofDef0_den rfl ?_
    unfold b_law_marks
    refine cons_rets (σ1 := [.val (.int n), .val (cellsV c0 c1 c2 c3), .own true [], .unset, .unset, .unset, .unset, .unset, .unset, .unset, .unset, .unset, .unset, .unset]) rfl ?_
    refine cons_rets (σ1 := [.val (.int n), .val (cellsV c0 c1 c2 c3), .own true [], .own true [], .unset, .unset, .unset, .unset, .unset, .unset, .unset, .unset, .unset, .unset]) rfl ?_
    refine cons_rets (σ1 := stM (.val (.int n)) c0 c1 c2 c3 [] true [] 0 .unset .unset .unset .unset .unset .unset .unset .unset .unset) rfl ?_
    refine cons_goes (for_goes (v := .rng 1 ((n : Int) + 1)) rfl (iter_rng (by omega) (by omega)) h) ?_
    rintro _ ⟨_, _, _, _, _, _, _, _, _⟩
    exact ret_rets (tup_den (denL_cons (f := true) (g := true) rfl (denL_cons (f := true) (g := false) rfl rfl)))
  match top, ht with
  | 0, _ =>
    refine fin 0 _ _ 0 0 ?_ rfl (by decide)
    refine Eq.mpr (congrArg (fun l => Goes (loopD _ _ l _) _) (show rngV 1 (((0 : Nat) : Int) + 1) = [] from by kernel_rfl)) ?_
    exact loop_done ⟨_, _, _, _, _, _, _, _, _⟩
  | 1, _ =>
    refine fin 1 _ _ 1 1 ?_ rfl (by decide)
    refine Eq.mpr (congrArg (fun l => Goes (loopD _ _ l _) _) (show rngV 1 (((1 : Nat) : Int) + 1) = [.int 1] from by kernel_rfl)) ?_
    refine loop_goes (mk_size1 w Z (Nat.le_of_ble_eq_true rfl)) ?_
    rintro _ ⟨_, _, _, _, _, _, _, _, _⟩
    exact loop_done ⟨_, _, _, _, _, _, _, _, _⟩
  | 2, _ =>
    refine fin 2 _ _ 3 2 ?_ rfl (by decide)
    refine Eq.mpr (congrArg (fun l => Goes (loopD _ _ l _) _) (show rngV 1 (((2 : Nat) : Int) + 1) = [.int 1, .int 2] from by kernel_rfl)) ?_
    refine loop_goes (mk_size1 w Z (Nat.le_of_ble_eq_true rfl)) ?_
    rintro _ ⟨_, _, _, _, _, _, _, _, _⟩
    refine loop_goes (mk_size2 w Z (Nat.le_of_ble_eq_true rfl)) ?_
    rintro _ ⟨_, _, _, _, _, _, _, _, _⟩
    exact loop_done ⟨_, _, _, _, _, _, _, _, _⟩
  | 3, _ =>
    refine fin 3 _ _ 6 3 ?_ rfl (by decide)
    refine Eq.mpr (congrArg (fun l => Goes (loopD _ _ l _) _) (show rngV 1 (((3 : Nat) : Int) + 1) = [.int 1, .int 2, .int 3] from by kernel_rfl)) ?_
    refine loop_goes (mk_size1 w Z (Nat.le_of_ble_eq_true rfl)) ?_
    rintro _ ⟨_, _, _, _, _, _, _, _, _⟩
    refine loop_goes (mk_size2 w Z (Nat.le_of_ble_eq_true rfl)) ?_
    rintro _ ⟨_, _, _, _, _, _, _, _, _⟩
    refine loop_goes (mk_size3 w Z (Nat.le_of_ble_eq_true rfl)) ?_
    rintro _ ⟨_, _, _, _, _, _, _, _, _⟩
    exact loop_done ⟨_, _, _, _, _, _, _, _, _⟩
  | 4, _ =>
    refine fin 4 _ _ 10 4 ?_ rfl (by decide)
    refine Eq.mpr (congrArg (fun l => Goes (loopD _ _ l _) _) (show rngV 1 (((4 : Nat) : Int) + 1) = [.int 1, .int 2, .int 3, .int 4] from by kernel_rfl)) ?_
    refine loop_goes (mk_size1 w Z (Nat.le_of_ble_eq_true rfl)) ?_
    rintro _ ⟨_, _, _, _, _, _, _, _, _⟩
    refine loop_goes (mk_size2 w Z (Nat.le_of_ble_eq_true rfl)) ?_
    rintro _ ⟨_, _, _, _, _, _, _, _, _⟩
    refine loop_goes (mk_size3 w Z (Nat.le_of_ble_eq_true rfl)) ?_
    rintro _ ⟨_, _, _, _, _, _, _, _, _⟩
    refine loop_goes (mk_size4 w Z (Nat.le_of_ble_eq_true rfl)) ?_
    rintro _ ⟨_, _, _, _, _, _, _, _, _⟩
    exact loop_done ⟨_, _, _, _, _, _, _, _, _⟩
  | 5, _ =>
    refine fin 5 _ _ 15 5 ?_ rfl (by decide)
    refine Eq.mpr (congrArg (fun l => Goes (loopD _ _ l _) _) (show rngV 1 (((5 : Nat) : Int) + 1) = [.int 1, .int 2, .int 3, .int 4, .int 5] from by kernel_rfl)) ?_
    refine loop_goes (mk_size1 w Z (Nat.le_of_ble_eq_true rfl)) ?_
    rintro _ ⟨_, _, _, _, _, _, _, _, _⟩
    refine loop_goes (mk_size2 w Z (Nat.le_of_ble_eq_true rfl)) ?_
    rintro _ ⟨_, _, _, _, _, _, _, _, _⟩
    refine loop_goes (mk_size3 w Z (Nat.le_of_ble_eq_true rfl)) ?_
    rintro _ ⟨_, _, _, _, _, _, _, _, _⟩
    refine loop_goes (mk_size4 w Z (Nat.le_of_ble_eq_true rfl)) ?_
    rintro _ ⟨_, _, _, _, _, _, _, _, _⟩
    refine loop_goes (mk_size5 w Z (Nat.le_of_ble_eq_true rfl)) ?_
    rintro _ ⟨_, _, _, _, _, _, _, _, _⟩
    exact loop_done ⟨_, _, _, _, _, _, _, _, _⟩
theorem datas_ints : ∀ xs : List Int, V.datas (xs.map .int) = some (xs.map .int)
  | [] => rfl
  | x :: xs => by
    rw [List.map_cons, List.map_cons]
    unfold V.datas
    rw [datas_ints xs]; rfl
theorem lay_ints : ∀ xs : List Int, PyData.canLayAll0 (xs.map .int) = true
  | [] => rfl
  | x :: xs => by
    rw [List.map_cons]
    show (PyData.canLay0 (.int x) && PyData.canLayAll0 (xs.map .int)) = true
    rw [lay_ints xs]; rfl
theorem depth_ints : ∀ xs : List Int, PyData.depthAll (xs.map .int) = 0
  | [] => rfl
  | x :: xs => by
    rw [List.map_cons]
    show max (PyData.depth (.int x)) (PyData.depthAll (xs.map .int)) = 0
    rw [depth_ints xs]; rfl
theorem eqv_ints : ∀ xs ys : List Int, PyData.eqvAll (xs.map .int) (ys.map .int) = (xs == ys)
  | [], [] => rfl
  | [], y :: ys => rfl
  | x :: xs, [] => rfl
  | x :: xs, y :: ys => by
    rw [List.map_cons, List.map_cons]
    show (x == y && PyData.eqvAll (xs.map .int) (ys.map .int)) = _
    rw [eqv_ints xs ys]; rfl
theorem data_norm (xs : List Int) (g : Int) : V.data (.tup [.tup (xs.map .int), .int g]) = some (.tuple [.tuple (xs.map .int), .int g]) := by
  unfold V.data V.datas V.data
  rw [datas_ints]; rfl
theorem shaped_norm (xs : List Int) (g : Int) : SeqAt.shaped (.tuple [.tuple (xs.map .int), .int g]) = true := by
  unfold SeqAt.shaped
  rw [Bool.and_eq_true]
  constructor
  · show ((PyData.canLayAll0 (xs.map .int)) && (PyData.canLay0 (.int g) && PyData.canLayAll0 [])) = true
    rw [lay_ints]; rfl
  · refine decide_eq_true ?_
    show max (PyData.depthAll (xs.map .int) + 1) (max 0 0) + 1 ≤ 64
    rw [depth_ints]; decide
theorem eq_norm (xs ys : List Int) (g : Int) : eqV (.tup [.tup (xs.map .int), .int g]) (.tup [.tup (ys.map .int), .int g]) = some (xs == ys) := by
  unfold eqV
  rw [data_norm, data_norm]
  dsimp only
  rw [shaped_norm, shaped_norm]
  show some ((PyData.eqvAll (xs.map .int) (ys.map .int)) && (g == g && true)) = _
  rw [eqv_ints, beq_self_eq_true]; simp
noncomputable def t3 (p : Int × Int × Int) : V := .tup [.int p.1, .int p.2.1, .int p.2.2]
noncomputable def d3 (p : Int × Int × Int) : PyData := .tuple [.int p.1, .int p.2.1, .int p.2.2]
theorem datas_t3 : ∀ l : List (Int × Int × Int), V.datas (l.map t3) = some (l.map d3)
  | [] => rfl
  | x :: xs => by
    rw [List.map_cons, List.map_cons]
    unfold V.datas
    rw [datas_t3 xs]; rfl
theorem lay_t3 : ∀ l : List (Int × Int × Int), PyData.canLayAll0 (l.map d3) = true
  | [] => rfl
  | x :: xs => by
    rw [List.map_cons]
    show (PyData.canLay0 (d3 x) && PyData.canLayAll0 (xs.map d3)) = true
    rw [lay_t3 xs]; rfl
theorem depth_t3 : ∀ l : List (Int × Int × Int), PyData.depthAll (l.map d3) ≤ 1
  | [] => Nat.zero_le _
  | x :: xs => by
    rw [List.map_cons]
    show max (PyData.depth (d3 x)) (PyData.depthAll (xs.map d3)) ≤ 1
    have := depth_t3 xs
    have e : PyData.depth (d3 x) = 1 := rfl
    omega
theorem eq_t3 (l : List (Int × Int × Int)) : eqV (.list (l.map t3)) (.list (l.map t3)) = some true := by
  have hd : V.data (.list (l.map t3)) = some (.list (l.map d3)) := by
    unfold V.data
    rw [datas_t3]; rfl
  have hs : SeqAt.shaped (.list (l.map d3)) = true := by
    unfold SeqAt.shaped
    rw [Bool.and_eq_true]
    constructor
    · exact lay_t3 l
    · refine decide_eq_true ?_
      show PyData.depthAll (l.map d3) + 1 ≤ 64
      have := depth_t3 l
      omega
  unfold eqV
  rw [hd]
  dsimp only
  rw [hs]
  have := SeqAt.eqv_refl (.list (l.map d3)) (lay_t3 l)
  rw [this]; rfl
noncomputable def uncnt (cs : List Int) : List Int := (List.range cs.length).flatMap fun (k : Nat) => List.replicate ((cs[k]?).getD 0).toNat (k : Int)
noncomputable def cntS : List Int → List Int
  | [x, y, z] => cnt x.toNat y.toNat z.toNat
  | _ => []
theorem unc_eq : ∀ a : Nat, a < 6 → ∀ b : Nat, b < 6 → ∀ c : Nat, c < 6 → uncnt (cnt a b c) = sortL [(a : Int), (b : Int), (c : Int)] := by decide +kernel
theorem cns_eq : ∀ a : Nat, a < 6 → ∀ b : Nat, b < 6 → ∀ c : Nat, c < 6 → cntS (sortL [(a : Int), (b : Int), (c : Int)]) = cnt a b c := by decide +kernel
theorem bag_eq {a b c d e f : Nat} (ha : a < 6) (hb : b < 6) (hc : c < 6) (hd : d < 6) (he : e < 6) (hf : f < 6) : (sortL [(a : Int), (b : Int), (c : Int)] == sortL [(d : Int), (e : Int), (f : Int)]) = (cnt a b c == cnt d e f) := by
  rw [Bool.eq_iff_iff, beq_iff_eq, beq_iff_eq]
  constructor
  · intro h
    have := congrArg cntS h
    rwa [cns_eq a ha b hb c hc, cns_eq d hd e he f hf] at this
  · intro h
    have := congrArg uncnt h
    rwa [unc_eq a ha b hb c hc, unc_eq d hd e he f hf] at this
theorem q_equal (w : World) {t1 t2 : Str} {n1 n2 : Int} {s1 s2 : Bool} {xs ys : List Int} {g : Int} : (c_Whitespace_equal w).den [(V.inst 181 (fsV t1 n1 s1 xs g)), (V.inst 181 (fsV t2 n2 s2 ys g))] = some (.bool (xs == ys)) := by
  refine ofDef0_den rfl ?_
  unfold b_Whitespace_equal
  refine ret_rets (b := false) (cmpE_den (x := .tup [.tup (xs.map .int), .int g]) (y := .tup [.tup (ys.map .int), .int g]) (f := false) (g := false) (by kernel_rfl) (by kernel_rfl) ?_)
  exact eq_norm xs ys g
noncomputable def lw_D (w : World) : XS (u0 w) 4 nm_law :=
  (XS.cons
  (X1.assign 21 "due" .local (by rfl) (by decide) (XE.list [] ⟨244, 10, 244, 12⟩ (Nat.le_of_ble_eq_true rfl)) ⟨244, 4, 244, 7⟩ ⟨244, 4, 244, 12⟩ (fun _ => rfl))
  (XS.cons
  (X1.ite (XT.cmp .NotEq (XE.callB "sorted" (.builtin "sorted") sortedC [⟨(XE.loc 2 ⟨245, 14, 245, 18⟩ "ours" .local (by rfl)), rfl⟩] ⟨245, 7, 245, 13⟩ ⟨245, 7, 245, 19⟩ (by rfl) Keepable.bi (by decide +kernel) (by rfl)) (XE.callB "sorted" (.builtin "sorted") sortedC [⟨(XE.loc 3 ⟨245, 30, 245, 36⟩ "theirs" .local (by rfl)), rfl⟩] ⟨245, 23, 245, 29⟩ ⟨245, 23, 245, 37⟩ (by rfl) Keepable.bi (by decide +kernel) (by rfl)) ⟨245, 7, 245, 37⟩ (by rfl)) (XS.cons
   (X1.assign 22 "words" .local (by rfl) (by decide) (XE.bin .Add (XE.bin .Add (XE.str "indent not equal e.g. at tab size" 0 ⟨246, 16, 246, 51⟩) (XE.ifx (XT.cmp .Gt (XE.callB "len" (.builtin "len") lenC [⟨(XE.loc 15 ⟨246, 66, 246, 71⟩ "sizes" .local (by rfl)), rfl⟩] ⟨246, 62, 246, 65⟩ ⟨246, 62, 246, 72⟩ (by rfl) Keepable.bi (by decide +kernel) (by rfl)) (XE.int 1 0 ⟨246, 75, 246, 76⟩) ⟨246, 62, 246, 76⟩ (by rfl)) (XE.str "s" 0 ⟨246, 55, 246, 58⟩) (XE.str "" 0 ⟨246, 82, 246, 84⟩) ⟨246, 55, 246, 84⟩) ⟨246, 16, 246, 85⟩) (XE.str " " 0 ⟨246, 88, 246, 91⟩) ⟨246, 16, 246, 91⟩) ⟨246, 8, 246, 13⟩ ⟨246, 8, 246, 91⟩ (fun _ => rfl))
   (XS.cons
   (X1.assign 21 "due" .local (by rfl) (by decide) (XE.list [⟨(XE.idx (XE.loc 1 ⟨247, 15, 247, 20⟩ "cells" .local (by rfl)) (XE.int 3 0 ⟨247, 21, 247, 22⟩) ⟨247, 15, 247, 23⟩), rfl⟩, ⟨(XE.bin .Add (XE.loc 22 ⟨247, 25, 247, 30⟩ "words" .local (by rfl)) (XE.join (XE.str ", " 0 ⟨247, 33, 247, 37⟩) [⟨(XE.listComp (C' := nm_law_c1) 1 [] ((PySem.Expr.Call (func := (PySem.Expr.Name "str" ⟨247, 44, 247, 47⟩)) (args := [(PySem.Expr.Name "size" ⟨247, 48, 247, 52⟩)]) (keywords := []) (pos := ⟨247, 44, 247, 53⟩))) [] ({ kind := PySem.ScopeKind.function, names := [ (PySem.Str.ofString ".0", PySem.NameKind.local), (PySem.Str.ofString "size", PySem.NameKind.local), (PySem.Str.ofString "str", PySem.NameKind.globalImplicit)], isGenerator := false, isCoroutine := false, more := [] : PySem.Scope }) ⟨247, 43, 247, 72⟩ (XG.name 0 "size" .local (by rfl) (by decide) ⟨247, 58, 247, 62⟩) (XE.loc 15 ⟨247, 66, 247, 71⟩ "sizes" .local (by rfl)) Option.none (XCB.emit (XE.callB "str" (.type "str") strC [⟨(XE.loc 0 ⟨247, 48, 247, 52⟩ "size" .local (by rfl)), rfl⟩] ⟨247, 44, 247, 47⟩ ⟨247, 44, 247, 53⟩ (by rfl) Keepable.ty (by decide +kernel) (by rfl))) (CompOK.of (by decide +kernel)) (fun _ _ _ => by rfl) (fun _ _ => rfl) (fun _ _ => rfl)), rfl⟩] ⟨247, 33, 247, 42⟩ ⟨247, 33, 247, 73⟩ (fun _ => rfl) (Nat.le_of_ble_eq_true rfl) (by rfl)) ⟨247, 25, 247, 73⟩), rfl⟩, ⟨(XE.loc 5 ⟨247, 75, 247, 79⟩ "line" .local (by rfl)), rfl⟩] ⟨247, 14, 247, 80⟩ (Nat.le_of_ble_eq_true rfl)) ⟨247, 8, 247, 11⟩ ⟨247, 8, 247, 80⟩ (fun _ => rfl))
   XS.nil)) XS.nil ⟨245, 4, 247, 80⟩)
  XS.nil))
noncomputable def lw_C (w : World) : XS (u0 w) 4 nm_law :=
  (XS.cons
  (X1.assignOwn 15 "sizes" .local (by rfl) (by decide) [] (Nat.le_of_ble_eq_true rfl) ⟨229, 12, 229, 14⟩ ⟨229, 4, 229, 9⟩ ⟨229, 4, 229, 14⟩)
  (XS.cons
  (X1.for_ (XG.name 11 "size" .local (by rfl) (by decide) ⟨230, 8, 230, 12⟩) (fun _ _ => rfl) (XE.callB "range" (.type "range") rangeC [⟨(XE.int 1 0 ⟨230, 22, 230, 23⟩), rfl⟩, ⟨(XE.bin .Add (XE.loc 8 ⟨230, 25, 230, 28⟩ "top" .local (by rfl)) (XE.int 1 0 ⟨230, 31, 230, 32⟩) ⟨230, 25, 230, 32⟩), rfl⟩] ⟨230, 16, 230, 21⟩ ⟨230, 16, 230, 33⟩ (by rfl) Keepable.ty (by decide +kernel) (by rfl)) (XS.cons
   (X1.ite (XT.cmp .NotEq (XE.call "_law_wholes" (.ref 244) ((c_law_wholes w).lift (by decide)) [⟨(XE.loc 2 ⟨231, 23, 231, 27⟩ "ours" .local (by rfl)), rfl⟩, ⟨(XE.loc 11 ⟨231, 29, 231, 33⟩ "size" .local (by rfl)), rfl⟩] ⟨231, 11, 231, 22⟩ ⟨231, 11, 231, 34⟩ (by rfl) (Keepable.fn (by kernel_rfl)) (by decide +kernel) (by rfl)) (XE.call "_law_wholes" (.ref 244) ((c_law_wholes w).lift (by decide)) [⟨(XE.loc 3 ⟨231, 50, 231, 56⟩ "theirs" .local (by rfl)), rfl⟩, ⟨(XE.loc 11 ⟨231, 58, 231, 62⟩ "size" .local (by rfl)), rfl⟩] ⟨231, 38, 231, 49⟩ ⟨231, 38, 231, 63⟩ (by rfl) (Keepable.fn (by kernel_rfl)) (by decide +kernel) (by rfl)) ⟨231, 11, 231, 63⟩ (by rfl)) (XS.cons
    (X1.app 15 "sizes" .local (by rfl) ⟨(XE.loc 11 ⟨232, 25, 232, 29⟩ "size" .local (by rfl)), rfl⟩ ⟨232, 12, 232, 17⟩ ⟨232, 12, 232, 24⟩ ⟨232, 12, 232, 30⟩ ⟨232, 12, 232, 30⟩ (by rfl))
    XS.nil) XS.nil ⟨231, 8, 232, 30⟩)
   XS.nil) ⟨230, 4, 232, 30⟩ (fun _ _ => rfl))
  (XS.cons
  (X1.assign 16 "witness" .local (by rfl) (by decide) (XE.meth (XE.loc 6 ⟨233, 14, 233, 19⟩ "first" .cell (by rfl)) 181 "not_equal_witness" 164 ((c_Whitespace_not_equal_witness w).lift (by decide)) [⟨(XE.loc 7 ⟨233, 38, 233, 44⟩ "second" .cell (by rfl)), rfl⟩] ⟨233, 14, 233, 37⟩ ⟨233, 14, 233, 45⟩ (ws_ok w) (by kernel_rfl) (by kernel_rfl) (Keepable.fn (by kernel_rfl)) (fun _ => rfl) (Nat.le_of_ble_eq_true rfl) (by rfl)) ⟨233, 4, 233, 11⟩ ⟨233, 4, 233, 45⟩ (fun _ => rfl))
  (XS.cons
  (X1.ite (XT.cmp .NotEq (XE.loc 16 ⟨234, 7, 234, 14⟩ "witness" .local (by rfl)) (XE.listComp (C' := nm_law_c2) 1 [6, 7] ((PySem.Expr.Tuple (elts := [ (PySem.Expr.Name "size" ⟨234, 20, 234, 24⟩), (PySem.Expr.Call (func := (PySem.Expr.Attribute (PySem.Expr.Name "first" ⟨234, 26, 234, 31⟩) "indent_level" ⟨234, 26, 234, 44⟩)) (args := [(PySem.Expr.Name "size" ⟨234, 45, 234, 49⟩)]) (keywords := []) (pos := ⟨234, 26, 234, 50⟩)), (PySem.Expr.Call (func := (PySem.Expr.Attribute (PySem.Expr.Name "second" ⟨234, 52, 234, 58⟩) "indent_level" ⟨234, 52, 234, 71⟩)) (args := [(PySem.Expr.Name "size" ⟨234, 72, 234, 76⟩)]) (keywords := []) (pos := ⟨234, 52, 234, 77⟩))]) (k := 0) (pos := ⟨234, 19, 234, 78⟩))) [] ({ kind := PySem.ScopeKind.function, names := [ (PySem.Str.ofString ".0", PySem.NameKind.local), (PySem.Str.ofString "size", PySem.NameKind.local), (PySem.Str.ofString "first", PySem.NameKind.free), (PySem.Str.ofString "second", PySem.NameKind.free)], isGenerator := false, isCoroutine := false, more := [] : PySem.Scope }) ⟨234, 18, 234, 97⟩ (XG.name 0 "size" .local (by rfl) (by decide) ⟨234, 83, 234, 87⟩) (XE.loc 15 ⟨234, 91, 234, 96⟩ "sizes" .local (by rfl)) Option.none (XCB.emit (XE.tup [⟨(XE.loc 0 ⟨234, 20, 234, 24⟩ "size" .local (by rfl)), rfl⟩, ⟨(XE.meth (XE.loc 1 ⟨234, 26, 234, 31⟩ "first" .free (by rfl)) 181 "indent_level" 150 ((c_Whitespace_indent_level w).lift (by decide)) [⟨(XE.loc 0 ⟨234, 45, 234, 49⟩ "size" .local (by rfl)), rfl⟩] ⟨234, 26, 234, 44⟩ ⟨234, 26, 234, 50⟩ (ws_ok w) (by kernel_rfl) (by kernel_rfl) (Keepable.fn (by kernel_rfl)) (fun _ => rfl) (Nat.le_of_ble_eq_true rfl) (by rfl)), rfl⟩, ⟨(XE.meth (XE.loc 2 ⟨234, 52, 234, 58⟩ "second" .free (by rfl)) 181 "indent_level" 150 ((c_Whitespace_indent_level w).lift (by decide)) [⟨(XE.loc 0 ⟨234, 72, 234, 76⟩ "size" .local (by rfl)), rfl⟩] ⟨234, 52, 234, 71⟩ ⟨234, 52, 234, 77⟩ (ws_ok w) (by kernel_rfl) (by kernel_rfl) (Keepable.fn (by kernel_rfl)) (fun _ => rfl) (Nat.le_of_ble_eq_true rfl) (by rfl)), rfl⟩] 0 ⟨234, 19, 234, 78⟩ (Nat.le_of_ble_eq_true rfl))) (CompOK.of (by decide +kernel)) (fun _ _ _ => by rfl) (fun _ _ => rfl) (fun _ _ => rfl)) ⟨234, 7, 234, 97⟩ (by rfl)) (XS.cons
   (X1.ret (XE.bool false 0 ⟨235, 15, 235, 20⟩) ⟨235, 8, 235, 20⟩)
   XS.nil) XS.nil ⟨234, 4, 235, 20⟩)
  (XS.cons
  (X1.assign 17 "gain" .local (by rfl) (by decide) (XE.int 0 0 ⟨236, 11, 236, 12⟩) ⟨236, 4, 236, 8⟩ ⟨236, 4, 236, 12⟩ (fun _ => rfl))
  (XS.cons
  (X1.forT (XG.tup [⟨(XG.name 11 "size" .local (by rfl) (by decide) ⟨237, 8, 237, 12⟩), rfl⟩, ⟨(XG.name 18 "far" .local (by rfl) (by decide) ⟨237, 14, 237, 17⟩), rfl⟩, ⟨(XG.name 19 "near" .local (by rfl) (by decide) ⟨237, 19, 237, 23⟩), rfl⟩] 0 ⟨237, 8, 237, 23⟩) [(PySem.Expr.Name "size" ⟨237, 8, 237, 12⟩), (PySem.Expr.Name "far" ⟨237, 14, 237, 17⟩), (PySem.Expr.Name "near" ⟨237, 19, 237, 23⟩)] 0 ⟨237, 8, 237, 23⟩ rfl (XE.loc 16 ⟨237, 27, 237, 34⟩ "witness" .local (by rfl)) (XS.cons
   (X1.assignT (XG.tup [⟨(XG.name 20 "steps" .local (by rfl) (by decide) ⟨238, 8, 238, 13⟩), rfl⟩, ⟨(XG.name 14 "over" .local (by rfl) (by decide) ⟨238, 15, 238, 19⟩), rfl⟩] 0 ⟨238, 8, 238, 19⟩) (XE.callB "divmod" (.builtin "divmod") divmodC [⟨(XE.bin .Sub (XE.loc 18 ⟨238, 29, 238, 32⟩ "far" .local (by rfl)) (XE.loc 19 ⟨238, 35, 238, 39⟩ "near" .local (by rfl)) ⟨238, 29, 238, 39⟩), rfl⟩, ⟨(XE.loc 11 ⟨238, 41, 238, 45⟩ "size" .local (by rfl)), rfl⟩] ⟨238, 22, 238, 28⟩ ⟨238, 22, 238, 46⟩ (by rfl) Keepable.bi (by decide +kernel) (by rfl)) ⟨238, 8, 238, 46⟩ (by rfl) (fun _ => rfl) (fun _ => rfl))
   (XS.cons
   (X1.ite (XT.cmp .NotEq (XE.loc 14 ⟨239, 11, 239, 15⟩ "over" .local (by rfl)) (XE.int 0 0 ⟨239, 19, 239, 20⟩) ⟨239, 11, 239, 20⟩ (by rfl)) (XS.cons
    (X1.ret (XE.bool false 0 ⟨240, 19, 240, 24⟩) ⟨240, 12, 240, 24⟩)
    XS.nil) XS.nil ⟨239, 8, 240, 24⟩)
   (XS.cons
   (X1.assign 17 "gain" .local (by rfl) (by decide) (XE.bin .Add (XE.loc 17 ⟨241, 15, 241, 19⟩ "gain" .local (by rfl)) (XE.bin .Mult (XE.idx (XE.loc 10 ⟨241, 22, 241, 27⟩ "fresh" .local (by rfl)) (XE.bin .Sub (XE.loc 11 ⟨241, 28, 241, 32⟩ "size" .local (by rfl)) (XE.int 1 0 ⟨241, 35, 241, 36⟩) ⟨241, 28, 241, 36⟩) ⟨241, 22, 241, 37⟩) (XE.loc 20 ⟨241, 40, 241, 45⟩ "steps" .local (by rfl)) ⟨241, 22, 241, 45⟩) ⟨241, 15, 241, 45⟩) ⟨241, 8, 241, 12⟩ ⟨241, 8, 241, 45⟩ (fun _ => rfl))
   XS.nil))) ⟨237, 4, 241, 45⟩ (fun _ _ => rfl))
  (XS.cons
  (X1.ite (XT.cmp .NotEq (XE.loc 17 ⟨242, 7, 242, 11⟩ "gain" .local (by rfl)) (XE.bin .Sub (XE.loc 12 ⟨242, 15, 242, 19⟩ "heft" .local (by rfl)) (XE.call "_law_heft" (.ref 239) ((c_law_heft w).lift (by decide)) [⟨(XE.loc 3 ⟨242, 32, 242, 38⟩ "theirs" .local (by rfl)), rfl⟩, ⟨(XE.loc 1 ⟨242, 40, 242, 45⟩ "cells" .local (by rfl)), rfl⟩] ⟨242, 22, 242, 31⟩ ⟨242, 22, 242, 46⟩ (by rfl) (Keepable.fn (by kernel_rfl)) (by decide +kernel) (by rfl)) ⟨242, 15, 242, 46⟩) ⟨242, 7, 242, 46⟩ (by rfl)) (XS.cons
   (X1.ret (XE.bool false 0 ⟨243, 15, 243, 20⟩) ⟨243, 8, 243, 20⟩)
   XS.nil) XS.nil ⟨242, 4, 243, 20⟩)
  (lw_D w))))))))
noncomputable def lw_B (w : World) : XS (u0 w) 4 nm_law :=
  (XS.cons
  (X1.ite (XT.cmp .NotEq (XE.loc 9 ⟨219, 7, 219, 10⟩ "row" .local (by rfl)) (XE.sortedSet (XE.listComp (C' := nm_law_c3) 2 [] ((PySem.Expr.BinOp (left := (PySem.Expr.BinOp (left := (PySem.Expr.Constant (PySem.Const.int 60) 0 ⟨219, 26, 219, 28⟩)) (op := PySem.Operator.Mult) (right := (PySem.Expr.Name "k" ⟨219, 31, 219, 32⟩)) (pos := ⟨219, 26, 219, 32⟩))) (op := PySem.Operator.FloorDiv) (right := (PySem.Expr.Name "size" ⟨219, 36, 219, 40⟩)) (pos := ⟨219, 26, 219, 40⟩))) [⟨(PySem.Expr.Name "k" ⟨219, 75, 219, 76⟩), (PySem.Expr.Call (func := (PySem.Expr.Name "range" ⟨219, 80, 219, 85⟩)) (args := [(PySem.Expr.Name "size" ⟨219, 86, 219, 90⟩)]) (keywords := []) (pos := ⟨219, 80, 219, 91⟩)), [], 0⟩] ({ kind := PySem.ScopeKind.function, names := [ (PySem.Str.ofString ".0", PySem.NameKind.local), (PySem.Str.ofString "size", PySem.NameKind.local), (PySem.Str.ofString "k", PySem.NameKind.local), (PySem.Str.ofString "range", PySem.NameKind.globalImplicit)], isGenerator := false, isCoroutine := false, more := [] : PySem.Scope }) ⟨219, 25, 219, 92⟩ (XG.name 0 "size" .local (by rfl) (by decide) ⟨219, 45, 219, 49⟩) (XE.callB "range" (.type "range") rangeC [⟨(XE.int 1 0 ⟨219, 59, 219, 60⟩), rfl⟩, ⟨(XE.bin .Add (XE.loc 8 ⟨219, 62, 219, 65⟩ "top" .local (by rfl)) (XE.int 1 0 ⟨219, 68, 219, 69⟩) ⟨219, 62, 219, 69⟩), rfl⟩] ⟨219, 53, 219, 58⟩ ⟨219, 53, 219, 70⟩ (by rfl) Keepable.ty (by decide +kernel) (by rfl)) Option.none (XCB.for_ ((PySem.Expr.BinOp (left := (PySem.Expr.BinOp (left := (PySem.Expr.Constant (PySem.Const.int 60) 0 ⟨219, 26, 219, 28⟩)) (op := PySem.Operator.Mult) (right := (PySem.Expr.Name "k" ⟨219, 31, 219, 32⟩)) (pos := ⟨219, 26, 219, 32⟩))) (op := PySem.Operator.FloorDiv) (right := (PySem.Expr.Name "size" ⟨219, 36, 219, 40⟩)) (pos := ⟨219, 26, 219, 40⟩))) [⟨(PySem.Expr.Name "size" ⟨219, 45, 219, 49⟩), (PySem.Expr.Call (func := (PySem.Expr.Name "range" ⟨219, 53, 219, 58⟩)) (args := [ (PySem.Expr.Constant (PySem.Const.int 1) 0 ⟨219, 59, 219, 60⟩), (PySem.Expr.BinOp (left := (PySem.Expr.Name "top" ⟨219, 62, 219, 65⟩)) (op := PySem.Operator.Add) (right := (PySem.Expr.Constant (PySem.Const.int 1) 0 ⟨219, 68, 219, 69⟩)) (pos := ⟨219, 62, 219, 69⟩))]) (keywords := []) (pos := ⟨219, 53, 219, 70⟩)), [], 0⟩, ⟨(PySem.Expr.Name "k" ⟨219, 75, 219, 76⟩), (PySem.Expr.Call (func := (PySem.Expr.Name "range" ⟨219, 80, 219, 85⟩)) (args := [(PySem.Expr.Name "size" ⟨219, 86, 219, 90⟩)]) (keywords := []) (pos := ⟨219, 80, 219, 91⟩)), [], 0⟩] ({ kind := PySem.ScopeKind.function, names := [ (PySem.Str.ofString ".0", PySem.NameKind.local), (PySem.Str.ofString "size", PySem.NameKind.local), (PySem.Str.ofString "k", PySem.NameKind.local), (PySem.Str.ofString "range", PySem.NameKind.globalImplicit)], isGenerator := false, isCoroutine := false, more := [] : PySem.Scope }) ⟨219, 25, 219, 92⟩ 1 (XG.name 1 "k" .local (by rfl) (by decide) ⟨219, 75, 219, 76⟩) (XE.callB "range" (.type "range") rangeC [⟨(XE.loc 0 ⟨219, 86, 219, 90⟩ "size" .local (by rfl)), rfl⟩] ⟨219, 80, 219, 85⟩ ⟨219, 80, 219, 91⟩ (by rfl) Keepable.ty (by decide +kernel) (by rfl)) Option.none (XCB.emit (XE.bin .FloorDiv (XE.bin .Mult (XE.int 60 0 ⟨219, 26, 219, 28⟩) (XE.loc 1 ⟨219, 31, 219, 32⟩ "k" .local (by rfl)) ⟨219, 26, 219, 32⟩) (XE.loc 0 ⟨219, 36, 219, 40⟩ "size" .local (by rfl)) ⟨219, 26, 219, 40⟩)) (fun _ _ _ => by rfl) (by rfl) (fun _ _ => rfl) (fun _ _ => rfl)) (CompOK.of (by decide +kernel)) (fun it acc env => turn2 _ _ _ _ _ _ _ _ _ it acc env) (fun _ _ => rfl) (fun _ _ => rfl)) rfl ⟨219, 14, 219, 20⟩ ⟨219, 21, 219, 24⟩ ⟨219, 21, 219, 93⟩ ⟨219, 14, 219, 94⟩ (by rfl) (by rfl) (by decide +kernel) (by decide +kernel)) ⟨219, 7, 219, 94⟩ (by rfl)) (XS.cons
   (X1.ret (XE.bool false 0 ⟨220, 15, 220, 20⟩) ⟨220, 8, 220, 20⟩)
   XS.nil) XS.nil ⟨219, 4, 220, 20⟩)
  (XS.cons
  (X1.assign 12 "heft" .local (by rfl) (by decide) (XE.int 0 0 ⟨221, 11, 221, 12⟩) ⟨221, 4, 221, 8⟩ ⟨221, 4, 221, 12⟩ (fun _ => rfl))
  (XS.cons
  (X1.for_ (XG.name 11 "size" .local (by rfl) (by decide) ⟨222, 8, 222, 12⟩) (fun _ _ => rfl) (XE.callB "range" (.type "range") rangeC [⟨(XE.int 1 0 ⟨222, 22, 222, 23⟩), rfl⟩, ⟨(XE.bin .Add (XE.loc 8 ⟨222, 25, 222, 28⟩ "top" .local (by rfl)) (XE.int 1 0 ⟨222, 31, 222, 32⟩) ⟨222, 25, 222, 32⟩), rfl⟩] ⟨222, 16, 222, 21⟩ ⟨222, 16, 222, 33⟩ (by rfl) Keepable.ty (by decide +kernel) (by rfl)) (XS.cons
   (X1.assignT (XG.tup [⟨(XG.name 13 "whole" .local (by rfl) (by decide) ⟨223, 8, 223, 13⟩), rfl⟩, ⟨(XG.name 14 "over" .local (by rfl) (by decide) ⟨223, 15, 223, 19⟩), rfl⟩] 0 ⟨223, 8, 223, 19⟩) (XE.callB "divmod" (.builtin "divmod") divmodC [⟨(XE.bin .Sub (XE.meth (XE.loc 6 ⟨223, 29, 223, 34⟩ "first" .cell (by rfl)) 181 "indent_level" 150 ((c_Whitespace_indent_level w).lift (by decide)) [⟨(XE.loc 11 ⟨223, 48, 223, 52⟩ "size" .local (by rfl)), rfl⟩] ⟨223, 29, 223, 47⟩ ⟨223, 29, 223, 53⟩ (ws_ok w) (by kernel_rfl) (by kernel_rfl) (Keepable.fn (by kernel_rfl)) (fun _ => rfl) (Nat.le_of_ble_eq_true rfl) (by rfl)) (XE.loc 4 ⟨223, 56, 223, 62⟩ "behind" .local (by rfl)) ⟨223, 29, 223, 62⟩), rfl⟩, ⟨(XE.loc 11 ⟨223, 64, 223, 68⟩ "size" .local (by rfl)), rfl⟩] ⟨223, 22, 223, 28⟩ ⟨223, 22, 223, 69⟩ (by rfl) Keepable.bi (by decide +kernel) (by rfl)) ⟨223, 8, 223, 69⟩ (by rfl) (fun _ => rfl) (fun _ => rfl))
   (XS.cons
   (X1.ite (XT.cmp .NotEq (XE.loc 14 ⟨224, 11, 224, 15⟩ "over" .local (by rfl)) (XE.int 0 0 ⟨224, 19, 224, 20⟩) ⟨224, 11, 224, 20⟩ (by rfl)) (XS.cons
    (X1.ret (XE.bool false 0 ⟨225, 19, 225, 24⟩) ⟨225, 12, 225, 24⟩)
    XS.nil) XS.nil ⟨224, 8, 225, 24⟩)
   (XS.cons
   (X1.assign 12 "heft" .local (by rfl) (by decide) (XE.bin .Add (XE.loc 12 ⟨226, 15, 226, 19⟩ "heft" .local (by rfl)) (XE.bin .Mult (XE.idx (XE.loc 10 ⟨226, 22, 226, 27⟩ "fresh" .local (by rfl)) (XE.bin .Sub (XE.loc 11 ⟨226, 28, 226, 32⟩ "size" .local (by rfl)) (XE.int 1 0 ⟨226, 35, 226, 36⟩) ⟨226, 28, 226, 36⟩) ⟨226, 22, 226, 37⟩) (XE.bin .Sub (XE.loc 13 ⟨226, 41, 226, 46⟩ "whole" .local (by rfl)) (XE.int 3 0 ⟨226, 49, 226, 50⟩) ⟨226, 41, 226, 50⟩) ⟨226, 22, 226, 51⟩) ⟨226, 15, 226, 51⟩) ⟨226, 8, 226, 12⟩ ⟨226, 8, 226, 51⟩ (fun _ => rfl))
   XS.nil))) ⟨222, 4, 226, 51⟩ (fun _ _ => rfl))
  (XS.cons
  (X1.ite (XT.cmp .NotEq (XE.loc 12 ⟨227, 7, 227, 11⟩ "heft" .local (by rfl)) (XE.call "_law_heft" (.ref 239) ((c_law_heft w).lift (by decide)) [⟨(XE.loc 2 ⟨227, 25, 227, 29⟩ "ours" .local (by rfl)), rfl⟩, ⟨(XE.loc 1 ⟨227, 31, 227, 36⟩ "cells" .local (by rfl)), rfl⟩] ⟨227, 15, 227, 24⟩ ⟨227, 15, 227, 37⟩ (by rfl) (Keepable.fn (by kernel_rfl)) (by decide +kernel) (by rfl)) ⟨227, 7, 227, 37⟩ (by rfl)) (XS.cons
   (X1.ret (XE.bool false 0 ⟨228, 15, 228, 20⟩) ⟨228, 8, 228, 20⟩)
   XS.nil) XS.nil ⟨227, 4, 228, 20⟩)
  (lw_C w)))))
noncomputable def lw_A (w : World) : XS (u0 w) 4 nm_law :=
  (XS.cons
  (X1.assign 2 "ours" .local (by rfl) (by decide) (XE.call "_law_figures" (.ref 199) ((c_law_figures w).lift (by decide)) [⟨(XE.idx (XE.loc 1 ⟨209, 24, 209, 29⟩ "cells" .local (by rfl)) (XE.int 0 0 ⟨209, 30, 209, 31⟩) ⟨209, 24, 209, 32⟩), rfl⟩] ⟨209, 11, 209, 23⟩ ⟨209, 11, 209, 33⟩ (by rfl) (Keepable.fn (by kernel_rfl)) (by decide +kernel) (by rfl)) ⟨209, 4, 209, 8⟩ ⟨209, 4, 209, 33⟩ (fun _ => rfl))
  (XS.cons
  (X1.assign 3 "theirs" .local (by rfl) (by decide) (XE.call "_law_others" (.ref 206) ((c_law_others w).lift (by decide)) [⟨(XE.loc 2 ⟨210, 25, 210, 29⟩ "ours" .local (by rfl)), rfl⟩, ⟨(XE.idx (XE.loc 1 ⟨210, 31, 210, 36⟩ "cells" .local (by rfl)) (XE.int 1 0 ⟨210, 37, 210, 38⟩) ⟨210, 31, 210, 39⟩), rfl⟩] ⟨210, 13, 210, 24⟩ ⟨210, 13, 210, 40⟩ (by rfl) (Keepable.fn (by kernel_rfl)) (by decide +kernel) (by rfl)) ⟨210, 4, 210, 10⟩ ⟨210, 4, 210, 40⟩ (fun _ => rfl))
  (XS.cons
  (X1.assign 4 "behind" .local (by rfl) (by decide) (XE.bin .Mod (XE.bin .FloorDiv (XE.idx (XE.loc 1 ⟨211, 13, 211, 18⟩ "cells" .local (by rfl)) (XE.int 0 0 ⟨211, 19, 211, 20⟩) ⟨211, 13, 211, 21⟩) (XE.int 216 0 ⟨211, 25, 211, 28⟩) ⟨211, 13, 211, 28⟩) (XE.int 4 0 ⟨211, 31, 211, 32⟩) ⟨211, 13, 211, 32⟩) ⟨211, 4, 211, 10⟩ ⟨211, 4, 211, 32⟩ (fun _ => rfl))
  (XS.cons
  (X1.assign 5 "line" .local (by rfl) (by decide) (XE.call "_law_line" (.ref 211) ((c_law_line w).lift (by decide)) [⟨(XE.loc 3 ⟨212, 21, 212, 27⟩ "theirs" .local (by rfl)), rfl⟩, ⟨(XE.loc 4 ⟨212, 29, 212, 35⟩ "behind" .local (by rfl)), rfl⟩] ⟨212, 11, 212, 20⟩ ⟨212, 11, 212, 36⟩ (by rfl) (Keepable.fn (by kernel_rfl)) (by decide +kernel) (by rfl)) ⟨212, 4, 212, 8⟩ ⟨212, 4, 212, 36⟩ (fun _ => rfl))
  (XS.cons
  (X1.assign 6 "first" .cell (by rfl) (by decide) (XE.call "Whitespace" (.ref 181) ((c_Whitespace w).lift (by decide)) [⟨(XE.call "_law_line" (.ref 211) ((c_law_line w).lift (by decide)) [⟨(XE.loc 2 ⟨213, 33, 213, 37⟩ "ours" .local (by rfl)), rfl⟩, ⟨(XE.loc 4 ⟨213, 39, 213, 45⟩ "behind" .local (by rfl)), rfl⟩] ⟨213, 23, 213, 32⟩ ⟨213, 23, 213, 46⟩ (by rfl) (Keepable.fn (by kernel_rfl)) (by decide +kernel) (by rfl)), rfl⟩] ⟨213, 12, 213, 22⟩ ⟨213, 12, 213, 47⟩ (by rfl) (Keepable.fn (by kernel_rfl)) (by decide +kernel) (by rfl)) ⟨213, 4, 213, 9⟩ ⟨213, 4, 213, 47⟩ (fun _ => rfl))
  (XS.cons
  (X1.assign 7 "second" .cell (by rfl) (by decide) (XE.call "Whitespace" (.ref 181) ((c_Whitespace w).lift (by decide)) [⟨(XE.loc 5 ⟨214, 24, 214, 28⟩ "line" .local (by rfl)), rfl⟩] ⟨214, 13, 214, 23⟩ ⟨214, 13, 214, 29⟩ (by rfl) (Keepable.fn (by kernel_rfl)) (by decide +kernel) (by rfl)) ⟨214, 4, 214, 10⟩ ⟨214, 4, 214, 29⟩ (fun _ => rfl))
  (XS.cons
  (X1.assign 8 "top" .local (by rfl) (by decide) (XE.callB "max" (.builtin "max") maxC [⟨(XE.bin .Add (XE.bin .Add (XE.loc 2 ⟨215, 14, 215, 18⟩ "ours" .local (by rfl)) (XE.loc 3 ⟨215, 21, 215, 27⟩ "theirs" .local (by rfl)) ⟨215, 14, 215, 27⟩) (XE.list [⟨(XE.loc 4 ⟨215, 31, 215, 37⟩ "behind" .local (by rfl)), rfl⟩] ⟨215, 30, 215, 38⟩ (Nat.le_of_ble_eq_true rfl)) ⟨215, 14, 215, 38⟩), rfl⟩] ⟨215, 10, 215, 13⟩ ⟨215, 10, 215, 39⟩ (by rfl) Keepable.bi (by decide +kernel) (by rfl)) ⟨215, 4, 215, 7⟩ ⟨215, 4, 215, 39⟩ (fun _ => rfl))
  (XS.cons
  (X1.ite (XT.cmp .NotEq (XE.callB "max" (.builtin "max") maxC [⟨(XE.meth (XE.loc 6 ⟨216, 11, 216, 16⟩ "first" .cell (by rfl)) 181 "longest_run_of_spaces" 143 ((c_Whitespace_longest_run_of_spaces w).lift (by decide)) [] ⟨216, 11, 216, 38⟩ ⟨216, 11, 216, 40⟩ (ws_ok w) (by kernel_rfl) (by kernel_rfl) (Keepable.fn (by kernel_rfl)) (fun _ => rfl) (Nat.le_of_ble_eq_true rfl) (by rfl)), rfl⟩, ⟨(XE.meth (XE.loc 7 ⟨216, 42, 216, 48⟩ "second" .cell (by rfl)) 181 "longest_run_of_spaces" 143 ((c_Whitespace_longest_run_of_spaces w).lift (by decide)) [] ⟨216, 42, 216, 70⟩ ⟨216, 42, 216, 72⟩ (ws_ok w) (by kernel_rfl) (by kernel_rfl) (Keepable.fn (by kernel_rfl)) (fun _ => rfl) (Nat.le_of_ble_eq_true rfl) (by rfl)), rfl⟩] ⟨216, 7, 216, 10⟩ ⟨216, 7, 216, 73⟩ (by rfl) Keepable.bi (by decide +kernel) (by rfl)) (XE.loc 8 ⟨216, 77, 216, 80⟩ "top" .local (by rfl)) ⟨216, 7, 216, 80⟩ (by rfl)) (XS.cons
   (X1.ret (XE.bool false 0 ⟨217, 15, 217, 20⟩) ⟨217, 8, 217, 20⟩)
   XS.nil) XS.nil ⟨216, 4, 217, 20⟩)
  (XS.cons
  (X1.assignT (XG.tup [⟨(XG.name 9 "row" .local (by rfl) (by decide) ⟨218, 4, 218, 7⟩), rfl⟩, ⟨(XG.name 10 "fresh" .local (by rfl) (by decide) ⟨218, 9, 218, 14⟩), rfl⟩] 0 ⟨218, 4, 218, 14⟩) (XE.call "_law_marks" (.ref 232) ((c_law_marks w).lift (by decide)) [⟨(XE.loc 8 ⟨218, 28, 218, 31⟩ "top" .local (by rfl)), rfl⟩, ⟨(XE.loc 1 ⟨218, 33, 218, 38⟩ "cells" .local (by rfl)), rfl⟩] ⟨218, 17, 218, 27⟩ ⟨218, 17, 218, 39⟩ (by rfl) (Keepable.fn (by kernel_rfl)) (by decide +kernel) (by rfl)) ⟨218, 4, 218, 39⟩ (by rfl) (fun _ => rfl) (fun _ => rfl))
  (lw_B w))))))))))
noncomputable def lw_hb (w : World) : XS (u0 w) 4 nm_law :=
  (XS.cons
   (X1.assignT (XG.tup [⟨(XG.name 13 "whole" .local (by rfl) (by decide) ⟨223, 8, 223, 13⟩), rfl⟩, ⟨(XG.name 14 "over" .local (by rfl) (by decide) ⟨223, 15, 223, 19⟩), rfl⟩] 0 ⟨223, 8, 223, 19⟩) (XE.callB "divmod" (.builtin "divmod") divmodC [⟨(XE.bin .Sub (XE.meth (XE.loc 6 ⟨223, 29, 223, 34⟩ "first" .cell (by rfl)) 181 "indent_level" 150 ((c_Whitespace_indent_level w).lift (by decide)) [⟨(XE.loc 11 ⟨223, 48, 223, 52⟩ "size" .local (by rfl)), rfl⟩] ⟨223, 29, 223, 47⟩ ⟨223, 29, 223, 53⟩ (ws_ok w) (by kernel_rfl) (by kernel_rfl) (Keepable.fn (by kernel_rfl)) (fun _ => rfl) (Nat.le_of_ble_eq_true rfl) (by rfl)) (XE.loc 4 ⟨223, 56, 223, 62⟩ "behind" .local (by rfl)) ⟨223, 29, 223, 62⟩), rfl⟩, ⟨(XE.loc 11 ⟨223, 64, 223, 68⟩ "size" .local (by rfl)), rfl⟩] ⟨223, 22, 223, 28⟩ ⟨223, 22, 223, 69⟩ (by rfl) Keepable.bi (by decide +kernel) (by rfl)) ⟨223, 8, 223, 69⟩ (by rfl) (fun _ => rfl) (fun _ => rfl))
   (XS.cons
   (X1.ite (XT.cmp .NotEq (XE.loc 14 ⟨224, 11, 224, 15⟩ "over" .local (by rfl)) (XE.int 0 0 ⟨224, 19, 224, 20⟩) ⟨224, 11, 224, 20⟩ (by rfl)) (XS.cons
    (X1.ret (XE.bool false 0 ⟨225, 19, 225, 24⟩) ⟨225, 12, 225, 24⟩)
    XS.nil) XS.nil ⟨224, 8, 225, 24⟩)
   (XS.cons
   (X1.assign 12 "heft" .local (by rfl) (by decide) (XE.bin .Add (XE.loc 12 ⟨226, 15, 226, 19⟩ "heft" .local (by rfl)) (XE.bin .Mult (XE.idx (XE.loc 10 ⟨226, 22, 226, 27⟩ "fresh" .local (by rfl)) (XE.bin .Sub (XE.loc 11 ⟨226, 28, 226, 32⟩ "size" .local (by rfl)) (XE.int 1 0 ⟨226, 35, 226, 36⟩) ⟨226, 28, 226, 36⟩) ⟨226, 22, 226, 37⟩) (XE.bin .Sub (XE.loc 13 ⟨226, 41, 226, 46⟩ "whole" .local (by rfl)) (XE.int 3 0 ⟨226, 49, 226, 50⟩) ⟨226, 41, 226, 50⟩) ⟨226, 22, 226, 51⟩) ⟨226, 15, 226, 51⟩) ⟨226, 8, 226, 12⟩ ⟨226, 8, 226, 51⟩ (fun _ => rfl))
   XS.nil)))
noncomputable def lw_sb (w : World) : XS (u0 w) 4 nm_law :=
  (XS.cons
   (X1.ite (XT.cmp .NotEq (XE.call "_law_wholes" (.ref 244) ((c_law_wholes w).lift (by decide)) [⟨(XE.loc 2 ⟨231, 23, 231, 27⟩ "ours" .local (by rfl)), rfl⟩, ⟨(XE.loc 11 ⟨231, 29, 231, 33⟩ "size" .local (by rfl)), rfl⟩] ⟨231, 11, 231, 22⟩ ⟨231, 11, 231, 34⟩ (by rfl) (Keepable.fn (by kernel_rfl)) (by decide +kernel) (by rfl)) (XE.call "_law_wholes" (.ref 244) ((c_law_wholes w).lift (by decide)) [⟨(XE.loc 3 ⟨231, 50, 231, 56⟩ "theirs" .local (by rfl)), rfl⟩, ⟨(XE.loc 11 ⟨231, 58, 231, 62⟩ "size" .local (by rfl)), rfl⟩] ⟨231, 38, 231, 49⟩ ⟨231, 38, 231, 63⟩ (by rfl) (Keepable.fn (by kernel_rfl)) (by decide +kernel) (by rfl)) ⟨231, 11, 231, 63⟩ (by rfl)) (XS.cons
    (X1.app 15 "sizes" .local (by rfl) ⟨(XE.loc 11 ⟨232, 25, 232, 29⟩ "size" .local (by rfl)), rfl⟩ ⟨232, 12, 232, 17⟩ ⟨232, 12, 232, 24⟩ ⟨232, 12, 232, 30⟩ ⟨232, 12, 232, 30⟩ (by rfl))
    XS.nil) XS.nil ⟨231, 8, 232, 30⟩)
   XS.nil)
noncomputable def lw_gb (w : World) : XS (u0 w) 4 nm_law :=
  (XS.cons
   (X1.assignT (XG.tup [⟨(XG.name 20 "steps" .local (by rfl) (by decide) ⟨238, 8, 238, 13⟩), rfl⟩, ⟨(XG.name 14 "over" .local (by rfl) (by decide) ⟨238, 15, 238, 19⟩), rfl⟩] 0 ⟨238, 8, 238, 19⟩) (XE.callB "divmod" (.builtin "divmod") divmodC [⟨(XE.bin .Sub (XE.loc 18 ⟨238, 29, 238, 32⟩ "far" .local (by rfl)) (XE.loc 19 ⟨238, 35, 238, 39⟩ "near" .local (by rfl)) ⟨238, 29, 238, 39⟩), rfl⟩, ⟨(XE.loc 11 ⟨238, 41, 238, 45⟩ "size" .local (by rfl)), rfl⟩] ⟨238, 22, 238, 28⟩ ⟨238, 22, 238, 46⟩ (by rfl) Keepable.bi (by decide +kernel) (by rfl)) ⟨238, 8, 238, 46⟩ (by rfl) (fun _ => rfl) (fun _ => rfl))
   (XS.cons
   (X1.ite (XT.cmp .NotEq (XE.loc 14 ⟨239, 11, 239, 15⟩ "over" .local (by rfl)) (XE.int 0 0 ⟨239, 19, 239, 20⟩) ⟨239, 11, 239, 20⟩ (by rfl)) (XS.cons
    (X1.ret (XE.bool false 0 ⟨240, 19, 240, 24⟩) ⟨240, 12, 240, 24⟩)
    XS.nil) XS.nil ⟨239, 8, 240, 24⟩)
   (XS.cons
   (X1.assign 17 "gain" .local (by rfl) (by decide) (XE.bin .Add (XE.loc 17 ⟨241, 15, 241, 19⟩ "gain" .local (by rfl)) (XE.bin .Mult (XE.idx (XE.loc 10 ⟨241, 22, 241, 27⟩ "fresh" .local (by rfl)) (XE.bin .Sub (XE.loc 11 ⟨241, 28, 241, 32⟩ "size" .local (by rfl)) (XE.int 1 0 ⟨241, 35, 241, 36⟩) ⟨241, 28, 241, 36⟩) ⟨241, 22, 241, 37⟩) (XE.loc 20 ⟨241, 40, 241, 45⟩ "steps" .local (by rfl)) ⟨241, 22, 241, 45⟩) ⟨241, 15, 241, 45⟩) ⟨241, 8, 241, 12⟩ ⟨241, 8, 241, 45⟩ (fun _ => rfl))
   XS.nil)))
section
variable {u : U} {n : Nat} {C : Nm}
theorem assignComp_den {C' : Nm} {i : Nat} {x : Str} {hx : C.slots[i]? = some (x, .local)} {p1 p : Pos} {nl : Nat} {outs : List Nat} {elt : PySem.Expr} {rest : List Comprehension} {scope : Scope} {pos : Pos} {g : XG u n C'} {a : XE u n C} {t : Option (XT u n C')} {body : XCB u n C'} {hc ht hg hs hl hn} {σ : List SV} {zs : List V} (h : compDen nl outs g a t body σ = some zs) : (X1.assignComp i x hx p1 p nl outs elt rest scope pos g a t body hc ht hg hs hl hn).den σ = some (.next, σ.set i (.val (.list zs))) := by
  show (match compDen nl outs g a t body σ with
    | some zs => some (Fl.next, σ.set i (SV.val (.list zs)))
    | none => none) = _
  rw [h]
theorem comp_den {C' : Nm} {nl : Nat} {outs : List Nat} {g : XG u n C'} {a : XE u n C} {t : Option (XT u n C')} {body : XCB u n C'} {σ : List SV} {v : V} {bf : Bool} {xs zs : List V} {τ σ2 : List SV} (h1 : a.den σ = some (v, bf)) (h2 : iterV v = some xs) (h3 : (!bf || xs.all V.flat) = true) (h4 : pick σ outs = some τ) (h5 : compD g.den (testD t) body.den xs (List.replicate nl .unset ++ τ) = some (σ2, zs)) (h6 : lenOk zs.length = true) : compDen nl outs g a t body σ = some zs := by
  unfold compDen
  rw [h1]; dsimp only; rw [h2]; dsimp only; rw [h3, h4]; dsimp only; rw [if_pos rfl, h5]; dsimp only; rw [if_pos h6]
theorem slice_den {a : XE u n C} {lo hi st : Option (XE u n C)} {p1 p : Pos} {σ : List SV} {x z : V} {f : Bool} {l h t : Option Int} (h0 : a.den σ = some (x, f)) (h1 : denP lo σ = some l) (h2 : denP hi σ = some h) (h3 : denP st σ = some t) (h4 : sliceV x l h t = some z) : (XE.slice a lo hi st p1 p).den σ = some (z, f) := by
  show (match a.den σ with
    | none => none
    | some (x, f) => match denP lo σ, denP hi σ, denP st σ with
      | some l, some h, some t => match sliceV x l h t with
        | none => none
        | some z => some (z, f)
      | _, _, _ => none) = _
  rw [h0]; dsimp only; rw [h1, h2, h3]; dsimp only; rw [h4]
end
theorem pick4 {α : Type} (x y z u : α) (r : List α) : pickL (x :: y :: z :: u :: r) none (some 4) none = [x, y, z, u] := by
  unfold pickL
  have e : sliceBounds none (some 4) none (x :: y :: z :: u :: r).length = (0, 4, 1) := by
    rw [kms_bounds]
    have h : kms_hi (some 4) (x :: y :: z :: u :: r).length = 4 := by
      unfold kms_hi
      simp only [List.length_cons]
      simp
    rw [h]; rfl
  rw [e]
  rfl
noncomputable def sg0 (sc cs : V) : List SV := [.val sc, .val cs, .unset, .unset, .unset, .unset, .unset, .unset, .unset, .unset, .unset, .unset, .unset, .unset, .unset, .unset, .unset, .unset, .unset, .unset, .unset, .unset, .unset]
theorem law_two (w : World) {σ σ1 σ2 : List SV} (h1 : (b1_law w).den σ = some (.next, σ1)) (h2 : (b2_law w).den σ1 = some (.next, σ2)) : (b_law w).den σ = (lw_A w).den σ2 := by
  unfold b_law
  exact cons_den h1 (cons_den h2 rfl)
theorem cells_ok (w : World) (xs : List Int) (hx : xs.length ≤ 63) : ∃ c0 c1 c2 c3 : Int, (b_law w).den (sigma nm_law [.list (xs.map .int)]) = (lw_A w).den (sg0 (.list (xs.map .int)) (cellsV c0 c1 c2 c3)) := by
  match xs, hx with
  | [], _ =>
    refine ⟨412, 497, 3, 7, ?_⟩
    exact law_two w (σ1 := sg0 (.list []) (.list [])) (σ2 := sg0 (.list []) (cellsV 412 497 3 7)) (by kernel_rfl) (by kernel_rfl)
  | [x], _ =>
    refine ⟨x.fmod 1000000000, 497, 3, 7, ?_⟩
    exact law_two w (σ1 := sg0 (.list [.int x]) (.list [.int (x.fmod 1000000000)])) (σ2 := sg0 (.list [.int x]) (cellsV (x.fmod 1000000000) 497 3 7)) (by kernel_rfl) (by kernel_rfl)
  | [x, y], _ =>
    refine ⟨x.fmod 1000000000, y.fmod 1000000000, 3, 7, ?_⟩
    exact law_two w (σ1 := sg0 (.list [.int x, .int y]) (.list [.int (x.fmod 1000000000), .int (y.fmod 1000000000)])) (σ2 := sg0 (.list [.int x, .int y]) (cellsV (x.fmod 1000000000) (y.fmod 1000000000) 3 7)) (by kernel_rfl) (by kernel_rfl)
  | [x, y, z], _ =>
    refine ⟨x.fmod 1000000000, y.fmod 1000000000, z.fmod 1000000000, 7, ?_⟩
    exact law_two w (σ1 := sg0 (.list [.int x, .int y, .int z]) (.list [.int (x.fmod 1000000000), .int (y.fmod 1000000000), .int (z.fmod 1000000000)])) (σ2 := sg0 (.list [.int x, .int y, .int z]) (cellsV (x.fmod 1000000000) (y.fmod 1000000000) (z.fmod 1000000000) 7)) (by kernel_rfl) (by kernel_rfl)
  | x :: y :: z :: u :: r, hx =>
    refine ⟨x.fmod 1000000000, y.fmod 1000000000, z.fmod 1000000000, u.fmod 1000000000, ?_⟩
    have hl : lenOk (((x :: y :: z :: u :: r).map V.int).length) = true := lenOk_le (by rw [List.length_map]; omega)
    have hs : sliceV (.list ((x :: y :: z :: u :: r).map V.int)) none (some 4) none = some (.list [.int x, .int y, .int z, .int u]) := by
      show (if (lenOk ((x :: y :: z :: u :: r).map V.int).length && true) = true then some (V.list (pickL ((x :: y :: z :: u :: r).map V.int) none (some 4) none)) else none) = _
      rw [hl]
      show some (V.list (pickL (.int x :: .int y :: .int z :: .int u :: r.map .int) none (some 4) none)) = _
      rw [pick4]
    refine law_two w (σ1 := sg0 (.list ((x :: y :: z :: u :: r).map .int)) (.list [.int (x.fmod 1000000000), .int (y.fmod 1000000000), .int (z.fmod 1000000000), .int (u.fmod 1000000000)])) (σ2 := sg0 (.list ((x :: y :: z :: u :: r).map .int)) (cellsV (x.fmod 1000000000) (y.fmod 1000000000) (z.fmod 1000000000) (u.fmod 1000000000))) ?_ (by kernel_rfl)
    unfold b1_law
    exact assignComp_den (comp_den (bf := false) (τ := []) (slice_den (l := none) (h := some 4) (t := none) rfl rfl rfl rfl hs) rfl rfl rfl (σ2 := [.val (.int u)]) (by kernel_rfl) rfl)
noncomputable def sL (sc cs o t : V) (g : Nat) (ln i1 i2 : V) (T : Nat) (row fresh size heft whole over sizes wit gain far near steps due words : SV) : List SV :=
  [.val sc, .val cs, .val o, .val t, .val (.int g), .val ln, .val i1, .val i2, .val (.int T), row, fresh, size, heft, whole, over, sizes, wit, gain, far, near, steps, due, words]
structure Lw (w : World) where
  sc : V
  c0 : Int
  c1 : Int
  c2 : Int
  c3 : Int
  a : Nat
  b : Nat
  c : Nat
  d : Nat
  e : Nat
  f : Nat
  g : Nat
  t1 : Str
  t2 : Str
  n1 : Int
  n2 : Int
  s1 : Bool
  s2 : Bool
  ha : a < 6
  hb : b < 6
  hc : c < 6
  hd : d < 6
  he : e < 6
  hf : f < 6
  hg : g < 4
  ht : PyData.strOk t2 = true
namespace Lw
variable {w : World} (l : Lw w)
noncomputable def T : Nat := topN l.a l.b l.c l.d l.e l.f l.g
noncomputable def i1 : V := .inst 181 (fsV l.t1 l.n1 l.s1 (cnt l.a l.b l.c) l.g)
noncomputable def i2 : V := .inst 181 (fsV l.t2 l.n2 l.s2 (cnt l.d l.e l.f) l.g)
noncomputable def st (row fresh size heft whole over sizes wit gain far near steps due words : SV) : List SV := sL l.sc (cellsV l.c0 l.c1 l.c2 l.c3) (runsV l.a l.b l.c) (runsV l.d l.e l.f) l.g (.str l.t2) l.i1 l.i2 l.T row fresh size heft whole over sizes wit gain far near steps due words
theorem T_lt : l.T < 6 := by
  exact topN_lt l.ha l.hb l.hc l.hd l.he l.hf l.hg
end Lw
theorem max_top (a b c d e f g : Nat) : maxL (a : Int) [(b : Int), (c : Int), (d : Int), (e : Int), (f : Int), (g : Int)] = ((topN a b c d e f g : Nat) : Int) := by
  have st : ∀ (m k : Nat), (if (m : Int) < (k : Int) then (k : Int) else (m : Int)) = ((max m k : Nat) : Int) := by intro m k; split <;> omega
  simp only [maxL, st]
  unfold topN
  simp only [Nat.max_assoc]
theorem txt_ok (a b c g : Nat) : PyData.strOk (txt a b c g) = true := by
  unfold PyData.strOk txt
  rw [List.all_toArray]
  unfold tl
  simp
set_option maxHeartbeats 4000000 in
theorem law_A (w : World) (Z : ∀ m : Int, m ∈ ([0, 12, 15, 20, 24, 30, 36, 40, 45, 48] : List Int) → ZoneOK w m) (sc : V) (c0 c1 c2 c3 : Int) : ∃ l : Lw w, ∀ r, (lw_B w).den (l.st (.val (.list (rowL l.T))) (.val (.list ((frs l.c0 l.c1 l.c2 l.c3 l.T).map .int))) .unset .unset .unset .unset .unset .unset .unset .unset .unset .unset .unset .unset) = r → (lw_A w).den (sg0 sc (cellsV c0 c1 c2 c3)) = r := by
  obtain ⟨a, b, c, hfig, ha, hb, hc⟩ := q_figures' w c0
  obtain ⟨d, e, f, hoth, hd, he, hf⟩ := q_others w c1 ha hb hc
  refine sEA (nat_lt (m := 4) (fm_range (c0.fdiv 216) (by decide))) fun g eg hg => ?_
  refine sEE (q_ws w ha hb hc hg) fun n1 s1 h1 => ?_
  refine sEE (q_ws w hd he hf hg) fun n2 s2 h2 => ?_
  have hl1 := q_line w ha hb hc hg
  have hl2 := q_line w hd he hf hg
  have hT : topN a b c d e f g < 6 := topN_lt ha hb hc hd he hf hg
  have htop : max (max (max a (max b c)) g) (max (max d (max e f)) g) = topN a b c d e f g := max_two _ _ g
  have L1 := q_longest' w (t := txt a b c g) (n := n1) (s := s1) (g := g) ha hb hc
  have L2 := q_longest' w (t := txt d e f g) (n := n2) (s := s2) (g := g) hd he hf
  have M := max_den (u := u0 w) (n := 3) (a := max (max a (max b c)) g) (b := max (max d (max e f)) g)
  rw [htop] at M
  have hm := q_marks w Z (c0 := c0) (c1 := c1) (c2 := c2) (c3 := c3) (top := topN a b c d e f g) (by omega)
  refine ⟨⟨sc, c0, c1, c2, c3, a, b, c, d, e, f, g, txt a b c g, txt d e f g, n1, n2, s1, s2, ha, hb, hc, hd, he, hf, hg, txt_ok d e f g⟩, fun r hr => ?_⟩
  have mx := max_top a b c d e f g
  unfold Lw.st at hr
  dsimp only [Lw.T] at hr
  generalize topN a b c d e f g = T at *
  unfold lw_A
  refine cons_den (σ1 := [.val sc, .val (cellsV c0 c1 c2 c3), .val (runsV a b c), .unset, .unset, .unset, .unset, .unset, .unset, .unset, .unset, .unset, .unset, .unset, .unset, .unset, .unset, .unset, .unset, .unset, .unset, .unset, .unset]) (assign_den (callL_den (denL_cons0 (idx_den (f := false) (g := false) rfl rfl rfl) rfl) hfig)) ?_
  refine cons_den (σ1 := [.val sc, .val (cellsV c0 c1 c2 c3), .val (runsV a b c), .val (runsV d e f), .unset, .unset, .unset, .unset, .unset, .unset, .unset, .unset, .unset, .unset, .unset, .unset, .unset, .unset, .unset, .unset, .unset, .unset, .unset]) (assign_den (callL_den (denL_cons0 rfl (denL_cons0 (idx_den (f := false) (g := false) rfl rfl rfl) rfl)) hoth)) ?_
  refine cons_den (σ1 := [.val sc, .val (cellsV c0 c1 c2 c3), .val (runsV a b c), .val (runsV d e f), .val (.int g), .unset, .unset, .unset, .unset, .unset, .unset, .unset, .unset, .unset, .unset, .unset, .unset, .unset, .unset, .unset, .unset, .unset, .unset]) (assign_den' (b := false) (bin_den (f := false) (g := false) (x := .int (c0.fdiv 216)) (bin_den (f := false) (g := false) (idx_den (f := false) (g := false) rfl rfl rfl) rfl rfl) rfl (congrArg (fun k => some (V.int k)) eg)) rfl) ?_
  refine cons_den (σ1 := [.val sc, .val (cellsV c0 c1 c2 c3), .val (runsV a b c), .val (runsV d e f), .val (.int g), .val (.str (txt d e f g)), .unset, .unset, .unset, .unset, .unset, .unset, .unset, .unset, .unset, .unset, .unset, .unset, .unset, .unset, .unset, .unset, .unset]) (assign_den' (b := false) (callL_den (denL_cons0 rfl (denL_cons0 rfl rfl)) hl2) rfl) ?_
  refine cons_den (σ1 := [.val sc, .val (cellsV c0 c1 c2 c3), .val (runsV a b c), .val (runsV d e f), .val (.int g), .val (.str (txt d e f g)), .val (.inst 181 (fsV (txt a b c g) n1 s1 (cnt a b c) g)), .unset, .unset, .unset, .unset, .unset, .unset, .unset, .unset, .unset, .unset, .unset, .unset, .unset, .unset, .unset, .unset]) (assign_den (callL_den (denL_cons0 (callL_den (denL_cons0 rfl (denL_cons0 rfl rfl)) hl1) rfl) h1)) ?_
  refine cons_den (σ1 := [.val sc, .val (cellsV c0 c1 c2 c3), .val (runsV a b c), .val (runsV d e f), .val (.int g), .val (.str (txt d e f g)), .val (.inst 181 (fsV (txt a b c g) n1 s1 (cnt a b c) g)), .val (.inst 181 (fsV (txt d e f g) n2 s2 (cnt d e f) g)), .unset, .unset, .unset, .unset, .unset, .unset, .unset, .unset, .unset, .unset, .unset, .unset, .unset, .unset, .unset]) (assign_den (callL_den (denL_cons0 rfl rfl) h2)) ?_
  refine cons_den (σ1 := [.val sc, .val (cellsV c0 c1 c2 c3), .val (runsV a b c), .val (runsV d e f), .val (.int g), .val (.str (txt d e f g)), .val (.inst 181 (fsV (txt a b c g) n1 s1 (cnt a b c) g)), .val (.inst 181 (fsV (txt d e f g) n2 s2 (cnt d e f) g)), .val (.int T), .unset, .unset, .unset, .unset, .unset, .unset, .unset, .unset, .unset, .unset, .unset, .unset, .unset, .unset]) (assign_den' (b := false) (callB_den (denL_cons0 (x := .list [.int a, .int b, .int c, .int d, .int e, .int f, .int g]) (by kernel_rfl) rfl) (Eq.trans (b := some (V.int (maxL (a : Int) [(b : Int), (c : Int), (d : Int), (e : Int), (f : Int), (g : Int)]))) (by kernel_rfl) (congrArg (fun k => some (V.int k)) mx))) rfl) ?_
  refine cons_den (ite_den (c := false) (cmpT_den (callB_den (denL_cons0 (methL_den (f := false) (g := false) rfl (by kernel_rfl) rfl L1) (denL_cons0 (methL_den (f := false) (g := false) rfl (by kernel_rfl) rfl L2) rfl)) M) rfl (ne_self _)) nil_den) ?_
  refine cons_den (assignT_den (callL_den (denL_cons0 rfl (denL_cons0 rfl rfl)) hm) rfl) ?_
  exact hr
noncomputable def frx (c0 c1 c2 c3 : Int) : Nat → Int
  | 0 => fr1 c0 c1 c2 c3
  | 1 => fr2 c0 c1 c2 c3
  | 2 => fr3 c0 c1 c2 c3
  | 3 => fr4 c0 c1 c2 c3
  | _ => fr5 c0 c1 c2 c3
theorem frs_len (c0 c1 c2 c3 : Int) {T : Nat} (hT : T < 6) : (frs c0 c1 c2 c3 T).length = T := by
  match T, hT with
  | 0, _ => rfl
  | 1, _ => rfl
  | 2, _ => rfl
  | 3, _ => rfl
  | 4, _ => rfl
  | 5, _ => rfl
theorem frs_get (c0 c1 c2 c3 : Int) {T k : Nat} (hT : T < 6) (hk : k < T) : ((frs c0 c1 c2 c3 T)[k]?).getD 0 = frx c0 c1 c2 c3 k := by
  have e : frs c0 c1 c2 c3 T = (List.range T).map (frx c0 c1 c2 c3) := lt6 (P := fun T => frs c0 c1 c2 c3 T = (List.range T).map (frx c0 c1 c2 c3)) rfl rfl rfl rfl rfl rfl T hT
  rw [e, List.getElem?_map, List.getElem?_range hk]; rfl
theorem hf_eq (c0 c1 c2 c3 : Int) (t : Int) {r : Nat} (hr : r < 6) : hf c0 c1 c2 c3 r t = t + frx c0 c1 c2 c3 0 * ((r / 1 : Nat) : Int) + frx c0 c1 c2 c3 1 * ((r / 2 : Nat) : Int) + frx c0 c1 c2 c3 2 * ((r / 3 : Nat) : Int) + frx c0 c1 c2 c3 3 * ((r / 4 : Nat) : Int) + frx c0 c1 c2 c3 4 * ((r / 5 : Nat) : Int) := by
  show _ = t + fr1 c0 c1 c2 c3 * ((r / 1 : Nat) : Int) + fr2 c0 c1 c2 c3 * ((r / 2 : Nat) : Int) + fr3 c0 c1 c2 c3 * ((r / 3 : Nat) : Int) + fr4 c0 c1 c2 c3 * ((r / 4 : Nat) : Int) + fr5 c0 c1 c2 c3 * ((r / 5 : Nat) : Int)
  unfold fr1 fr2 fr3 fr4 fr5
  have key : ∀ W : Int → Int, ∀ r < 6, (List.range r).foldl (fun t s => (ptsOf (s + 1)).foldl (fun t m => t + W m) t) t = t + (0 + W 0) * ((r / 1 : Nat) : Int) + (0 + W 30) * ((r / 2 : Nat) : Int) + (0 + W 20 + W 40) * ((r / 3 : Nat) : Int) + (0 + W 15 + W 45) * ((r / 4 : Nat) : Int) + (0 + W 12 + W 24 + W 36 + W 48) * ((r / 5 : Nat) : Int) := by
    intro W r hr
    match r, hr with
    | 0, _ => show t = _; simp
    | 1, _ => show t + W 0 = _; simp
    | 2, _ => show t + W 0 + W 0 + W 30 = _; simp; omega
    | 3, _ => show t + W 0 + W 0 + W 30 + W 0 + W 20 + W 40 = _; simp; omega
    | 4, _ => show t + W 0 + W 0 + W 30 + W 0 + W 20 + W 40 + W 0 + W 15 + W 30 + W 45 = _; simp; omega
    | 5, _ => show t + W 0 + W 0 + W 30 + W 0 + W 20 + W 40 + W 0 + W 15 + W 30 + W 45 + W 0 + W 12 + W 24 + W 36 + W 48 = _; simp; omega
  exact key (wt c0 c1 c2 c3) r hr
noncomputable def gnF (c0 c1 c2 c3 : Int) (m : Nat → Int) (ks : List Nat) (h : Int) : Int := ks.foldl (fun h k => h + frx c0 c1 c2 c3 k * m k) h
theorem gnF_cons (c0 c1 c2 c3 : Int) (m : Nat → Int) (k : Nat) (ks : List Nat) (h : Int) : gnF c0 c1 c2 c3 m (k :: ks) h = gnF c0 c1 c2 c3 m ks (h + frx c0 c1 c2 c3 k * m k) := rfl
theorem gnF_top (c0 c1 c2 c3 : Int) (m : Nat → Int) {T : Nat} (hT : T < 6) (h0 : ∀ k, T ≤ k → m k = 0) : gnF c0 c1 c2 c3 m (List.range T) 0 = frx c0 c1 c2 c3 0 * m 0 + frx c0 c1 c2 c3 1 * m 1 + frx c0 c1 c2 c3 2 * m 2 + frx c0 c1 c2 c3 3 * m 3 + frx c0 c1 c2 c3 4 * m 4 := by
  match T, hT, h0 with
  | 0, _, h0 => rw [h0 0 (by decide), h0 1 (by decide), h0 2 (by decide), h0 3 (by decide), h0 4 (by decide)]; simp [gnF]
  | 1, _, h0 => rw [h0 1 (by decide), h0 2 (by decide), h0 3 (by decide), h0 4 (by decide)]; simp [gnF, List.range_succ]
  | 2, _, h0 => rw [h0 2 (by decide), h0 3 (by decide), h0 4 (by decide)]; simp [gnF, List.range_succ]
  | 3, _, h0 => rw [h0 3 (by decide), h0 4 (by decide)]; simp [gnF, List.range_succ]
  | 4, _, h0 => rw [h0 4 (by decide)]; simp [gnF, List.range_succ]
  | 5, _, h0 => simp [gnF, List.range_succ]
theorem heft_eq (c0 c1 c2 c3 : Int) {a b c T : Nat} (ha : a < 6) (hb : b < 6) (hc : c < 6) (hT : T < 6) (h : max a (max b c) ≤ T) : gnF c0 c1 c2 c3 (fun k => (wh a b c (k + 1) : Nat)) (List.range T) 0 = hf c0 c1 c2 c3 c (hf c0 c1 c2 c3 b (hf c0 c1 c2 c3 a 0)) := by
  rw [gnF_top _ _ _ _ _ hT (fun k hk => by rw [wh_top (by omega)]; rfl), hf_eq _ _ _ _ _ hc, hf_eq _ _ _ _ _ hb, hf_eq _ _ _ _ _ ha]
  unfold wh
  simp only [Int.natCast_add, Int.mul_add, Nat.zero_add, Nat.reduceAdd]
  omega
theorem divmod_den {u : U} {n : Nat} {a b : Int} (h0 : b ≠ 0) (h : b.natAbs < 1048576) : (divmodC : Co u n (.builtin "divmod")).den [.int a, .int b] = some (.tup [.int (a.fdiv b), .int (a.fmod b)]) := by
  show (if b != 0 && decide (b.natAbs < big) then some (V.tup [.int (a.fdiv b), .int (a.fmod b)]) else none) = _
  rw [decide_eq_true (show b.natAbs < big from Nat.lt_of_lt_of_le h (by decide)), (bne_iff_ne).mpr h0]; rfl
theorem dm_exact {s q : Int} (h : s ≠ 0) : (s * q).fdiv s = q ∧ (s * q).fmod s = 0 := ⟨Int.mul_fdiv_cancel_left q h, by rw [Int.fmod_def, Int.mul_fdiv_cancel_left q h]; omega⟩
theorem mul_small' {a b : Int} (h : b.natAbs < 1048576) : binop .Mult (.int a) (.int b) = some (.int (a * b)) := by
  show (if mulOk a b then some (V.int (a * b)) else none) = _
  have : mulOk a b = true := by
    unfold mulOk
    rw [decide_eq_true (show b.natAbs < big from Nat.lt_of_lt_of_le h (by decide))]; simp
  rw [this]; rfl
set_option maxHeartbeats 4000000 in
theorem heft_loop (w : World) {v0 v1 v2 v3 v5 v7 v8 v9 x15 x16 x17 x18 x19 x20 x21 x22 : SV} {t1 : Str} {n1 : Int} {s1 : Bool} {a b c g T : Nat} {c0 c1 c2 c3 : Int} (ha : a < 6) (hb : b < 6) (hc : c < 6) (hT : T < 6) :
    ∀ (ks : List Nat) (h0 : Int) (sz wl ov : SV), (∀ k ∈ ks, k < T) → Goes (loopD (XG.name (u := u0 w) (n := 4) (C := nm_law) 11 "size" .local (by rfl) (by decide) ⟨222, 8, 222, 12⟩).den (lw_hb w).den (ks.map fun (k : Nat) => V.int (1 + (k : Int))) [v0, v1, v2, v3, .val (.int (g : Nat)), v5, .val (.inst 181 (fsV t1 n1 s1 (cnt a b c) g)), v7, v8, v9, .val (.list ((frs c0 c1 c2 c3 T).map .int)), sz, .val (.int h0), wl, ov, x15, x16, x17, x18, x19, x20, x21, x22]) (fun σ => ∃ size whole over, σ = [v0, v1, v2, v3, .val (.int (g : Nat)), v5, .val (.inst 181 (fsV t1 n1 s1 (cnt a b c) g)), v7, v8, v9, .val (.list ((frs c0 c1 c2 c3 T).map .int)), size, .val (.int (gnF c0 c1 c2 c3 (fun k => (wh a b c (k + 1) : Nat)) ks h0)), whole, over, x15, x16, x17, x18, x19, x20, x21, x22])
  | [], h0, sz, wl, ov, _ => loop_done ⟨sz, wl, ov, rfl⟩
  | k :: ks, h0, sz, wl, ov, hk => by
    have hk0 := hk k List.mem_cons_self
    have ih := fun h0 sz wl ov => heft_loop w (v0 := v0) (v1 := v1) (v2 := v2) (v3 := v3) (v5 := v5) (v7 := v7) (v8 := v8) (v9 := v9) (x15 := x15) (x16 := x16) (x17 := x17) (x18 := x18) (x19 := x19) (x20 := x20) (x21 := x21) (x22 := x22) (t1 := t1) (n1 := n1) (s1 := s1) (g := g) (c0 := c0) (c1 := c1) (c2 := c2) (c3 := c3) ha hb hc hT ks h0 sz wl ov fun k m => hk k (List.mem_cons_of_mem _ m)
    have hlen := frs_len c0 c1 c2 c3 hT
    have hq := q_level w (t := t1) (n := n1) (x := s1) (g := g) (s := k + 1) ha hb hc (by omega) (by omega)
    have hget := frs_get c0 c1 c2 c3 hT hk0
    have hI := getV_int (xs := frs c0 c1 c2 c3 T) (b := k) (by omega) (by omega)
    rw [hget] at hI
    have hw : (wh a b c (k + 1)) < 1000 := by
      have h1 := Nat.div_le_self a (k + 1)
      have h2 := Nat.div_le_self b (k + 1)
      have h3 := Nat.div_le_self c (k + 1)
      unfold wh; omega
    have hd := dm_exact (s := ((k + 1 : Nat) : Int)) (q := ((wh a b c (k + 1) : Nat) : Int) + 3) (by omega)
    rw [List.map_cons, gnF_cons, show (1 : Int) + (k : Int) = ((k + 1 : Nat) : Int) from by omega]
    generalize (wh a b c (k + 1)) = W at *
    generalize frs c0 c1 c2 c3 T = F at *
    generalize frx c0 c1 c2 c3 k = fx at *
    have hdm := divmod_den (u := u0 w) (n := 4) (a := ((k + 1 : Nat) : Int) * ((W : Int) + 3)) (b := ((k + 1 : Nat) : Int)) (by omega) (by omega)
    rw [hd.1, hd.2] at hdm
    refine loop_goes (Q := fun σ => σ = [v0, v1, v2, v3, .val (.int (g : Nat)), v5, .val (.inst 181 (fsV t1 n1 s1 (cnt a b c) g)), v7, v8, v9, .val (.list (F.map .int)), .val (.int ((k + 1 : Nat) : Int)), .val (.int (h0 + fx * (W : Int))), .val (.int ((W : Int) + 3)), .val (.int 0), x15, x16, x17, x18, x19, x20, x21, x22]) ⟨_, turn_name ?_, rfl⟩ ?_
    · unfold lw_hb
      refine cons_den (σ1 := [v0, v1, v2, v3, .val (.int (g : Nat)), v5, .val (.inst 181 (fsV t1 n1 s1 (cnt a b c) g)), v7, v8, v9, .val (.list (F.map .int)), .val (.int ((k + 1 : Nat) : Int)), .val (.int h0), .val (.int ((W : Int) + 3)), .val (.int 0), x15, x16, x17, x18, x19, x20, x21, x22]) (assignT_den (v := .tup [.int ((W : Int) + 3), .int 0]) (callB_den (denL_cons0 (bin_den (f := false) (g := false) (methL_den (f := false) (g := false) rfl (by kernel_rfl) rfl hq) rfl (congrArg (fun k => some (V.int k)) (by omega))) (denL_cons0 rfl rfl)) hdm) rfl) ?_
      refine cons_den (ite_den (c := false) (by kernel_rfl) nil_den) ?_
      refine cons_den (assign_den' (b := false) (v := .int (h0 + fx * (W : Int))) (bin_den (f := false) (g := false) rfl (bin_den (f := false) (g := false) (y := .int (W : Int)) (z := .int (fx * (W : Int))) (idx_den (f := false) (g := false) (y := .int (k : Int)) rfl (bin_den (f := false) (g := false) rfl rfl (congrArg (fun k => some (V.int k)) (by omega))) hI) (bin_den (f := false) (g := false) rfl rfl (congrArg (fun k => some (V.int k)) (by omega))) (mul_small' (by omega))) rfl) rfl) nil_den
    · rintro _ rfl
      exact ih _ _ _ _
theorem cons_dQ {u : U} {n : Nat} {C : Nm} {Q : Option (Fl × List SV) → Prop} {x : X1 u n C} {xs : XS u n C} {σ σ1 : List SV} (h : x.den σ = some (.next, σ1)) (h2 : Q (xs.den σ1)) : Q ((XS.cons x xs).den σ) := by
  rw [cons_den h rfl]; exact h2
theorem cons_denQ {u : U} {n : Nat} {C : Nm} {Q : Option (Fl × List SV) → Prop} {x : X1 u n C} {xs : XS u n C} {σ : List SV} (P : List SV → Prop) (h : Goes (x.den σ) P) (h2 : ∀ σ1, P σ1 → Q (xs.den σ1)) : Q ((XS.cons x xs).den σ) := by
  have z1 := h; clear h; refine sEA z1 fun σ1 h p => ?_; clear z1
  exact cons_dQ h (h2 σ1 p)
set_option maxHeartbeats 4000000 in
theorem law_B (w : World) (l : Lw w) {Q : Option (Fl × List SV) → Prop} (k : ∀ size whole over, Q ((lw_C w).den (l.st (.val (.list (rowL l.T))) (.val (.list ((frs l.c0 l.c1 l.c2 l.c3 l.T).map .int))) size (.val (.int (gnF l.c0 l.c1 l.c2 l.c3 (fun k => (wh l.a l.b l.c (k + 1) : Nat)) (List.range l.T) 0))) whole over .unset .unset .unset .unset .unset .unset .unset .unset))) :
    Q ((lw_B w).den (l.st (.val (.list (rowL l.T))) (.val (.list ((frs l.c0 l.c1 l.c2 l.c3 l.T).map .int))) .unset .unset .unset .unset .unset .unset .unset .unset .unset .unset .unset .unset)) := by
  have hT := l.T_lt
  obtain ⟨sc, c0, c1, c2, c3, a, b, c, d, e, f, g, t1, t2, n1, n2, s1, s2, ha, hb, hc, hd, he, hf, hg, ht⟩ := l
  have hmx : max a (max b c) ≤ topN a b c d e f g := top_l a b c d e f g
  unfold Lw.st sL at k ⊢
  dsimp only [Lw.T, Lw.i1, Lw.i2] at k hT ⊢
  generalize topN a b c d e f g = T at *
  unfold lw_B
  refine cons_dQ (ite_den (c := false) ?_ nil_den) ?_
  · clear k
    match T, hT with
    | 0, _ => kernel_rfl
    | 1, _ => kernel_rfl
    | 2, _ => kernel_rfl
    | 3, _ => kernel_rfl
    | 4, _ => kernel_rfl
    | 5, _ => kernel_rfl
  refine cons_dQ (assign_den rfl) ?_
  refine cons_denQ (fun σ => ∃ size whole over, σ = [.val sc, .val (cellsV c0 c1 c2 c3), .val (runsV a b c), .val (runsV d e f), .val (.int g), .val (.str t2), .val (.inst 181 (fsV t1 n1 s1 (cnt a b c) g)), .val (.inst 181 (fsV t2 n2 s2 (cnt d e f) g)), .val (.int (T : Nat)), .val (.list (rowL T)), .val (.list ((frs c0 c1 c2 c3 T).map .int)), size, .val (.int (gnF c0 c1 c2 c3 (fun k => (wh a b c (k + 1) : Nat)) (List.range T) 0)), whole, over, .unset, .unset, .unset, .unset, .unset, .unset, .unset, .unset]) ?_ ?_
  · refine for_goes (v := .rng 1 ((T : Nat) + 1)) (by kernel_rfl) (iter_rng (by omega) (by omega)) ?_
    unfold rngV
    rw [show (((T : Nat) : Int) + 1 - 1).toNat = T from by omega]
    exact heft_loop w ha hb hc hT (List.range T) 0 _ _ _ fun k m => List.mem_range.mp m
  · rintro _ ⟨size, whole, over, rfl⟩
    refine cons_dQ (ite_den (c := false) (cmpT_den (x := .int (gnF c0 c1 c2 c3 (fun k => (wh a b c (k + 1) : Nat)) (List.range T) 0)) (f := false) (g := false) rfl (callL_den (denL_cons0 rfl (denL_cons0 rfl rfl)) (q_heft w c0 c1 c2 c3 ha hb hc)) ?_) nil_den) (k _ _ _)
    rw [← heft_eq c0 c1 c2 c3 ha hb hc hT hmx]
    exact ne_self _
theorem turn_of {g : V → List SV → Option (List SV)} {body : List SV → Option (Fl × List SV)} {x : V} {σ σ0 : List SV} {r : Option (Fl × List SV)} (h : g x σ = some σ0) (h2 : body σ0 = r) : turnD g body x σ = r := by
  unfold turnD
  rw [h]; exact h2
theorem emit_den {u : U} {n : Nat} {C : Nm} {a : XE u n C} {σ : List SV} {v : V} (h : a.den σ = some (v, false)) : (XCB.emit a).den σ = some (σ, [v]) := by
  show (match a.den σ with
    | some (v, false) => some (σ, [v])
    | _ => none) = _
  rw [h]
theorem compD_cons {g : V → List SV → Option (List SV)} {t : List SV → Option Bool} {b : List SV → Option (List SV × List V)} {x : V} {r : List V} {σ σ0 σ2 : List SV} {v : V} {ws : List V} (h1 : g x σ = some σ0) (h2 : t σ0 = some true) (h3 : b σ0 = some (σ0, [v])) (h4 : compD g t b r σ0 = some (σ2, ws)) : compD g t b (x :: r) σ = some (σ2, v :: ws) := by
  unfold compD
  rw [h1]; dsimp only; rw [h2]; dsimp only; rw [h3]; dsimp only; rw [h4]; rfl
theorem gnF_sel (c0 c1 c2 c3 : Int) (m : Nat → Int) (P : Nat → Bool) (hP : ∀ k, P k = false → m k = 0) : ∀ (ks : List Nat) (h : Int), gnF c0 c1 c2 c3 m (ks.filter P) h = gnF c0 c1 c2 c3 m ks h
  | [], h => rfl
  | k :: ks, h => by
    cases hp : P k with
    | true => rw [List.filter_cons_of_pos hp, gnF_cons, gnF_cons, gnF_sel c0 c1 c2 c3 m P hP ks]
    | false =>
      rw [List.filter_cons_of_neg (by rw [hp]; decide), gnF_cons, hP k hp, Int.mul_zero, Int.add_zero, gnF_sel c0 c1 c2 c3 m P hP ks]
theorem bne_nat (a b : Nat) : ((a : Int) != (b : Int)) = (a != b) := by
  rw [Bool.eq_iff_iff, bne_iff_ne, bne_iff_ne]; omega
set_option maxHeartbeats 4000000 in
theorem sizes_loop (w : World) {v0 v1 v4 v5 v6 v7 v8 v9 v10 x12 x13 x14 x16 x17 x18 x19 x20 x21 x22 : SV} {a b c d e f : Nat} (ha : a < 6) (hb : b < 6) (hc : c < 6) (hd : d < 6) (he : e < 6) (hf : f < 6) {T : Nat} (hT : T < 6) (sz : SV) :
    Goes (loopD (XG.name (u := u0 w) (n := 4) (C := nm_law) 11 "size" .local (by rfl) (by decide) ⟨230, 8, 230, 12⟩).den (lw_sb w).den ((List.range T).map fun (k : Nat) => V.int (1 + (k : Int))) [v0, v1, .val (runsV a b c), .val (runsV d e f), v4, v5, v6, v7, v8, v9, v10, sz, x12, x13, x14, .own true [], x16, x17, x18, x19, x20, x21, x22]) (fun σ => ∃ size, σ = [v0, v1, .val (runsV a b c), .val (runsV d e f), v4, v5, v6, v7, v8, v9, v10, size, x12, x13, x14, .own true (((List.range T).filter (difB a b c d e f)).map fun (k : Nat) => V.int ((k + 1 : Nat) : Int)), x16, x17, x18, x19, x20, x21, x22]) := by
  refine Goes.imp (loop_sel (N := T) (S := fun xs x => [v0, v1, .val (runsV a b c), .val (runsV d e f), v4, v5, v6, v7, v8, v9, v10, x, x12, x13, x14, .own true xs, x16, x17, x18, x19, x20, x21, x22]) (It := fun (k : Nat) => V.int (1 + (k : Int))) (P := difB a b c d e f) (F := fun (k : Nat) => V.int ((k + 1 : Nat) : Int)) ?_ (List.range T) (fun k m => List.mem_range.mp m) [] sz (by rw [List.length_nil, List.length_range]; omega)) fun σ q => q
  intro k hk xs x hx
  rw [show (1 : Int) + (k : Int) = ((k + 1 : Nat) : Int) from by omega]
  have q1 := q_wholes w (s := k + 1) ha hb hc (by omega) (by omega)
  have q2 := q_wholes w (s := k + 1) hd he hf (by omega) (by omega)
  have hp : (((wh a b c (k + 1) : Nat) : Int) != ((wh d e f (k + 1) : Nat) : Int)) = difB a b c d e f k := bne_nat _ _
  generalize ((wh a b c (k + 1) : Nat) : Int) = W1 at *
  generalize ((wh d e f (k + 1) : Nat) : Int) = W2 at *
  generalize difB a b c d e f k = p at *
  generalize ((k + 1 : Nat) : Int) = j at *
  subst hp
  cases hv : (W1 != W2) with
  | true => exact ⟨_, turn_name (cons_den (ite_den (c := true) (cmpT_den (f := false) (g := false) (callL_den (denL_cons0 rfl (denL_cons0 rfl rfl)) q1) (callL_den (denL_cons0 rfl (denL_cons0 rfl rfl)) q2) (congrArg some hv)) (cons_den (app_den (xs := xs) (v := .int j) (b := false) rfl rfl (by rw [lenOk_le hx]; rfl)) nil_den)) nil_den), .val (.int j), rfl⟩
  | false => exact ⟨_, turn_name (cons_den (ite_den (c := false) (cmpT_den (f := false) (g := false) (callL_den (denL_cons0 rfl (denL_cons0 rfl rfl)) q1) (callL_den (denL_cons0 rfl (denL_cons0 rfl rfl)) q2) (congrArg some hv)) nil_den) nil_den), .val (.int j), rfl⟩
set_option maxHeartbeats 4000000 in
theorem gain_loop (w : World) {v0 v1 v2 v3 v4 v5 v6 v7 v8 v9 x12 x13 x15 x16 x21 x22 : SV} {a b c d e f g T : Nat} {c0 c1 c2 c3 : Int} (ha : a < 6) (hb : b < 6) (hc : c < 6) (hd : d < 6) (he : e < 6) (hf : f < 6) (hT : T < 6) :
    ∀ (ks : List Nat) (h0 : Int) (sz ov fa ne sp : SV), (∀ k ∈ ks, k < T) → Goes (loopD (XG.tup (u := u0 w) (n := 4) (C := nm_law) [⟨(XG.name 11 "size" .local (by rfl) (by decide) ⟨237, 8, 237, 12⟩), rfl⟩, ⟨(XG.name 18 "far" .local (by rfl) (by decide) ⟨237, 14, 237, 17⟩), rfl⟩, ⟨(XG.name 19 "near" .local (by rfl) (by decide) ⟨237, 19, 237, 23⟩), rfl⟩] 0 ⟨237, 8, 237, 23⟩).den (lw_gb w).den (ks.map (itemV a b c d e f g)) [v0, v1, v2, v3, v4, v5, v6, v7, v8, v9, .val (.list ((frs c0 c1 c2 c3 T).map .int)), sz, x12, x13, ov, x15, x16, .val (.int h0), fa, ne, sp, x21, x22]) (fun σ => ∃ sz ov fa ne sp, σ = [v0, v1, v2, v3, v4, v5, v6, v7, v8, v9, .val (.list ((frs c0 c1 c2 c3 T).map .int)), sz, x12, x13, ov, x15, x16, .val (.int (gnF c0 c1 c2 c3 (fun k => ((wh a b c (k + 1) : Nat) : Int) - (wh d e f (k + 1) : Nat)) ks h0)), fa, ne, sp, x21, x22])
  | [], h0, sz, ov, fa, ne, sp, _ => loop_done ⟨sz, ov, fa, ne, sp, rfl⟩
  | k :: ks, h0, sz, ov, fa, ne, sp, hk => by
    have hk0 := hk k List.mem_cons_self
    have ih := fun h0 sz ov fa ne sp => gain_loop w (v0 := v0) (v1 := v1) (v2 := v2) (v3 := v3) (v4 := v4) (v5 := v5) (v6 := v6) (v7 := v7) (v8 := v8) (v9 := v9) (x12 := x12) (x13 := x13) (x15 := x15) (x16 := x16) (x21 := x21) (x22 := x22) (g := g) (c0 := c0) (c1 := c1) (c2 := c2) (c3 := c3) ha hb hc hd he hf hT ks h0 sz ov fa ne sp fun k m => hk k (List.mem_cons_of_mem _ m)
    have hlen := frs_len c0 c1 c2 c3 hT
    have hget := frs_get c0 c1 c2 c3 hT hk0
    have hI := getV_int (xs := frs c0 c1 c2 c3 T) (b := k) (by omega) (by omega)
    rw [hget] at hI
    have hw1 : (wh a b c (k + 1)) < 1000 := by
      have h1 := Nat.div_le_self a (k + 1)
      have h2 := Nat.div_le_self b (k + 1)
      have h3 := Nat.div_le_self c (k + 1)
      unfold wh; omega
    have hw2 : (wh d e f (k + 1)) < 1000 := by
      have h1 := Nat.div_le_self d (k + 1)
      have h2 := Nat.div_le_self e (k + 1)
      have h3 := Nat.div_le_self f (k + 1)
      unfold wh; omega
    have hdif : lvI a b c (k + 1) g - lvI d e f (k + 1) g = ((k + 1 : Nat) : Int) * (((wh a b c (k + 1) : Nat) : Int) - (wh d e f (k + 1) : Nat)) := by
      unfold lvI
      rw [Int.mul_sub, Int.mul_add, Int.mul_add]; omega
    have hdd := dm_exact (s := ((k + 1 : Nat) : Int)) (q := ((wh a b c (k + 1) : Nat) : Int) - (wh d e f (k + 1) : Nat)) (by omega)
    have hdm := divmod_den (u := u0 w) (n := 4) (a := lvI a b c (k + 1) g - lvI d e f (k + 1) g) (b := ((k + 1 : Nat) : Int)) (by omega) (by omega)
    rw [hdif, hdd.1, hdd.2, ← hdif] at hdm
    have hF : itemV a b c d e f g k = .tup [.int ((k + 1 : Nat) : Int), .int (lvI a b c (k + 1) g), .int (lvI d e f (k + 1) g)] := rfl
    rw [List.map_cons, gnF_cons, hF]
    have hdW : (((wh a b c (k + 1) : Nat) : Int) - (wh d e f (k + 1) : Nat)).natAbs < 1048576 := by omega
    generalize (((wh a b c (k + 1) : Nat) : Int) - (wh d e f (k + 1) : Nat)) = W at *
    generalize lvI a b c (k + 1) g = u1 at *
    generalize lvI d e f (k + 1) g = u2 at *
    generalize frs c0 c1 c2 c3 T = F at *
    generalize frx c0 c1 c2 c3 k = fx at *
    refine loop_goes (Q := fun σ => σ = [v0, v1, v2, v3, v4, v5, v6, v7, v8, v9, .val (.list (F.map .int)), .val (.int ((k + 1 : Nat) : Int)), x12, x13, .val (.int 0), x15, x16, .val (.int (h0 + fx * W)), .val (.int u1), .val (.int u2), .val (.int W), x21, x22]) ⟨_, turn_of (σ0 := [v0, v1, v2, v3, v4, v5, v6, v7, v8, v9, .val (.list (F.map .int)), .val (.int ((k + 1 : Nat) : Int)), x12, x13, ov, x15, x16, .val (.int h0), .val (.int u1), .val (.int u2), sp, x21, x22]) (by kernel_rfl) ?_, rfl⟩ ?_
    · unfold lw_gb
      refine cons_den (σ1 := [v0, v1, v2, v3, v4, v5, v6, v7, v8, v9, .val (.list (F.map .int)), .val (.int ((k + 1 : Nat) : Int)), x12, x13, .val (.int 0), x15, x16, .val (.int h0), .val (.int u1), .val (.int u2), .val (.int W), x21, x22]) (assignT_den (v := .tup [.int W, .int 0]) (callB_den (denL_cons0 (bin_den (f := false) (g := false) rfl rfl rfl) (denL_cons0 rfl rfl)) hdm) rfl) ?_
      refine cons_den (ite_den (c := false) (by kernel_rfl) nil_den) ?_
      refine cons_den (assign_den' (b := false) (v := .int (h0 + fx * W)) (bin_den (f := false) (g := false) rfl (bin_den (f := false) (g := false) (y := .int W) (z := .int (fx * W)) (idx_den (f := false) (g := false) (y := .int (k : Int)) rfl (bin_den (f := false) (g := false) rfl rfl (congrArg (fun k => some (V.int k)) (by omega))) hI) rfl (mul_small' hdW)) rfl) rfl) nil_den
    · rintro _ rfl
      exact ih _ _ _ _ _ _
theorem cols (w : World) {t1 t2 : Str} {n1 n2 : Int} {s1 s2 : Bool} {a b c d e f g : Nat} (ha : a < 6) (hb : b < 6) (hc : c < 6) (hd : d < 6) (he : e < 6) (hf : f < 6) : ∀ (ks : List Nat) (x : SV), (∀ k ∈ ks, k < 6) → ∃ σ2, compD (XG.name (u := u0 w) (n := 4) (C := nm_law_c2) 0 "size" .local (by rfl) (by decide) ⟨234, 83, 234, 87⟩).den (testD (none : Option (XT (u0 w) 4 nm_law_c2))) (XCB.emit (XE.tup [⟨(XE.loc (u := u0 w) (n := 4) (C := nm_law_c2) 0 ⟨234, 20, 234, 24⟩ "size" .local (by rfl)), rfl⟩, ⟨(XE.meth (XE.loc 1 ⟨234, 26, 234, 31⟩ "first" .free (by rfl)) 181 "indent_level" 150 ((c_Whitespace_indent_level w).lift (by decide)) [⟨(XE.loc 0 ⟨234, 45, 234, 49⟩ "size" .local (by rfl)), rfl⟩] ⟨234, 26, 234, 44⟩ ⟨234, 26, 234, 50⟩ (ws_ok w) (by kernel_rfl) (by kernel_rfl) (Keepable.fn (by kernel_rfl)) (fun _ => rfl) (Nat.le_of_ble_eq_true rfl) (by rfl)), rfl⟩, ⟨(XE.meth (XE.loc 2 ⟨234, 52, 234, 58⟩ "second" .free (by rfl)) 181 "indent_level" 150 ((c_Whitespace_indent_level w).lift (by decide)) [⟨(XE.loc 0 ⟨234, 72, 234, 76⟩ "size" .local (by rfl)), rfl⟩] ⟨234, 52, 234, 71⟩ ⟨234, 52, 234, 77⟩ (ws_ok w) (by kernel_rfl) (by kernel_rfl) (Keepable.fn (by kernel_rfl)) (fun _ => rfl) (Nat.le_of_ble_eq_true rfl) (by rfl)), rfl⟩] 0 ⟨234, 19, 234, 78⟩ (Nat.le_of_ble_eq_true rfl))).den (ks.map fun (k : Nat) => V.int ((k + 1 : Nat) : Int)) [x, .val (.inst 181 (fsV t1 n1 s1 (cnt a b c) g)), .val (.inst 181 (fsV t2 n2 s2 (cnt d e f) g))] = some (σ2, ks.map (itemV a b c d e f g))
  | [], x, _ => ⟨_, rfl⟩
  | k :: ks, x, hk => by
    have hk0 := hk k List.mem_cons_self
    refine sE (cols w (t1 := t1) (t2 := t2) (n1 := n1) (n2 := n2) (s1 := s1) (s2 := s2) (g := g) ha hb hc hd he hf ks (.val (.int ((k + 1 : Nat) : Int))) fun k m => hk k (List.mem_cons_of_mem _ m)) fun σ2 ih => ?_
    have l1 : (c_Whitespace_indent_level w).den [(V.inst 181 (fsV t1 n1 s1 (cnt a b c) g)), .int ((k + 1 : Nat) : Int)] = some (.int (lvI a b c (k + 1) g)) := q_level w ha hb hc (by omega) (by omega)
    have l2 : (c_Whitespace_indent_level w).den [(V.inst 181 (fsV t2 n2 s2 (cnt d e f) g)), .int ((k + 1 : Nat) : Int)] = some (.int (lvI d e f (k + 1) g)) := q_level w hd he hf (by omega) (by omega)
    refine ⟨σ2, ?_⟩
    rw [List.map_cons, List.map_cons]
    have hF : itemV a b c d e f g k = .tup [.int ((k + 1 : Nat) : Int), .int (lvI a b c (k + 1) g), .int (lvI d e f (k + 1) g)] := rfl
    rw [hF]
    generalize lvI a b c (k + 1) g = v1 at *
    generalize lvI d e f (k + 1) g = v2 at *
    generalize ((k + 1 : Nat) : Int) = j at *
    refine compD_cons (σ0 := [SV.val (.int j), .val (.inst 181 (fsV t1 n1 s1 (cnt a b c) g)), .val (.inst 181 (fsV t2 n2 s2 (cnt d e f) g))]) rfl rfl (emit_den (tup_den (denL_cons0 rfl (denL_cons0 (methL_den (f := false) (g := false) rfl (by kernel_rfl) rfl l1) (denL_cons0 (methL_den (f := false) (g := false) rfl (by kernel_rfl) rfl l2) rfl))))) ih
theorem listComp_den {u : U} {n : Nat} {C C' : Nm} {nl : Nat} {outs : List Nat} {elt : PySem.Expr} {rest : List Comprehension} {scope : Scope} {pos : Pos} {g : XG u n C'} {a : XE u n C} {t : Option (XT u n C')} {body : XCB u n C'} {hc ht hg hs} {σ : List SV} {zs : List V} (h : compDen nl outs g a t body σ = some zs) : (XE.listComp nl outs elt rest scope pos g a t body hc ht hg hs).den σ = some (.list zs, false) := by
  show (match compDen nl outs g a t body σ with
    | some zs => some (V.list zs, false)
    | none => none) = _
  rw [h]
theorem iterV_list {xs : List V} (h : xs.length ≤ 1000) : iterV (.list xs) = some xs := by
  show (if lenOk xs.length then some xs else none) = _
  rw [lenOk_le h]; rfl
noncomputable def sizesL (a b c d e f g : Nat) : List V := (selN a b c d e f g).map fun (k : Nat) => V.int ((k + 1 : Nat) : Int)
noncomputable def witV (a b c d e f g : Nat) : V := .list ((selN a b c d e f g).map (itemV a b c d e f g))
theorem ne_wit (a b c d e f g : Nat) : cmpop .NotEq (witV a b c d e f g) (witV a b c d e f g) = some false := by
  show (eqV (witV a b c d e f g) (witV a b c d e f g)).map not = _
  unfold witV
  have : (selN a b c d e f g).map (itemV a b c d e f g) = ((selN a b c d e f g).map fun (k : Nat) => (((k + 1 : Nat) : Int), lvI a b c (k + 1) g, lvI d e f (k + 1) g)).map t3 := by
    rw [List.map_map]; rfl
  rw [this, eq_t3]; rfl
theorem sel_lt {a b c d e f g k : Nat} (h : k ∈ selN a b c d e f g) : k < topN a b c d e f g := List.mem_range.mp (List.mem_filter.mp h).1
theorem sel_len (a b c d e f g : Nat) : (selN a b c d e f g).length ≤ topN a b c d e f g := by
  have := List.length_filter_le (difB a b c d e f) (List.range (topN a b c d e f g))
  rwa [List.length_range] at this
theorem gain_eq (c0 c1 c2 c3 : Int) {a b c d e f g : Nat} (ha : a < 6) (hb : b < 6) (hc : c < 6) (hd : d < 6) (he : e < 6) (hf : f < 6) (hT : topN a b c d e f g < 6) : gnF c0 c1 c2 c3 (fun k => ((wh a b c (k + 1) : Nat) : Int) - (wh d e f (k + 1) : Nat)) (selN a b c d e f g) 0 = gnF c0 c1 c2 c3 (fun k => (wh a b c (k + 1) : Nat)) (List.range (topN a b c d e f g)) 0 - Mine.hf c0 c1 c2 c3 f (Mine.hf c0 c1 c2 c3 e (Mine.hf c0 c1 c2 c3 d 0)) := by
  unfold selN
  rw [gnF_sel _ _ _ _ _ _ (fun k h => by unfold difB at h; have := bne_eq_false_iff_eq.mp h; show ((wh a b c (k + 1) : Nat) : Int) - (wh d e f (k + 1) : Nat) = 0; omega)]
  have h1 : ∀ k, topN a b c d e f g ≤ k → wh a b c (k + 1) = 0 := fun k hk => wh_top (Nat.lt_succ_of_le (Nat.le_trans (top_l a b c d e f g) hk))
  have h2 : ∀ k, topN a b c d e f g ≤ k → wh d e f (k + 1) = 0 := fun k hk => wh_top (Nat.lt_succ_of_le (Nat.le_trans (top_r a b c d e f g) hk))
  rw [← heft_eq c0 c1 c2 c3 hd he hf hT (top_r a b c d e f g)]
  generalize topN a b c d e f g = T at *
  rw [gnF_top _ _ _ _ _ hT (fun k hk => by show ((wh a b c (k + 1) : Nat) : Int) - (wh d e f (k + 1) : Nat) = 0; rw [h1 k hk, h2 k hk]; rfl), gnF_top _ _ _ _ _ hT (fun k hk => by rw [h1 k hk]; rfl), gnF_top _ _ _ _ _ hT (fun k hk => by rw [h2 k hk]; rfl)]
  simp only [Int.mul_sub]
  omega
set_option maxHeartbeats 4000000 in
theorem law_C (w : World) (l : Lw w) {Q : Option (Fl × List SV) → Prop} {row : SV} {size heft whole over : SV} (hh : heft = .val (.int (gnF l.c0 l.c1 l.c2 l.c3 (fun k => (wh l.a l.b l.c (k + 1) : Nat)) (List.range l.T) 0)))
    (k : ∀ size over gain far near steps, Q ((lw_D w).den (l.st row (.val (.list ((frs l.c0 l.c1 l.c2 l.c3 l.T).map .int))) size heft whole over (.own true (sizesL l.a l.b l.c l.d l.e l.f l.g)) (.val (witV l.a l.b l.c l.d l.e l.f l.g)) gain far near steps .unset .unset))) :
    Q ((lw_C w).den (l.st row (.val (.list ((frs l.c0 l.c1 l.c2 l.c3 l.T).map .int))) size heft whole over .unset .unset .unset .unset .unset .unset .unset .unset)) := by
  have hT := l.T_lt
  subst hh
  obtain ⟨sc, c0, c1, c2, c3, a, b, c, d, e, f, g, t1, t2, n1, n2, s1, s2, ha, hb, hc, hd, he, hf, hg, ht⟩ := l
  have hmx : max a (max b c) ≤ topN a b c d e f g := top_l a b c d e f g
  have hsel : (List.range (topN a b c d e f g)).filter (difB a b c d e f) = selN a b c d e f g := rfl
  have hlt : ∀ k ∈ selN a b c d e f g, k < topN a b c d e f g := fun k m => sel_lt m
  have hlen := sel_len a b c d e f g
  have hge := gain_eq c0 c1 c2 c3 ha hb hc hd he hf hT
  unfold Lw.st sL at k ⊢
  dsimp only [Lw.T, Lw.i1, Lw.i2] at k hT ⊢
  generalize hTT : topN a b c d e f g = T at *
  unfold lw_C
  refine cons_dQ (σ1 := [.val sc, .val (cellsV c0 c1 c2 c3), .val (runsV a b c), .val (runsV d e f), .val (.int g), .val (.str t2), .val (.inst 181 (fsV t1 n1 s1 (cnt a b c) g)), .val (.inst 181 (fsV t2 n2 s2 (cnt d e f) g)), .val (.int (T : Nat)), row, .val (.list ((frs c0 c1 c2 c3 T).map .int)), size, .val (.int (gnF c0 c1 c2 c3 (fun k => (wh a b c (k + 1) : Nat)) (List.range T) 0)), whole, over, .own true [], .unset, .unset, .unset, .unset, .unset, .unset, .unset]) rfl ?_
  refine cons_denQ (fun σ => ∃ size, σ = [.val sc, .val (cellsV c0 c1 c2 c3), .val (runsV a b c), .val (runsV d e f), .val (.int g), .val (.str t2), .val (.inst 181 (fsV t1 n1 s1 (cnt a b c) g)), .val (.inst 181 (fsV t2 n2 s2 (cnt d e f) g)), .val (.int (T : Nat)), row, .val (.list ((frs c0 c1 c2 c3 T).map .int)), size, .val (.int (gnF c0 c1 c2 c3 (fun k => (wh a b c (k + 1) : Nat)) (List.range T) 0)), whole, over, .own true (((List.range T).filter (difB a b c d e f)).map fun (k : Nat) => V.int ((k + 1 : Nat) : Int)), .unset, .unset, .unset, .unset, .unset, .unset, .unset]) ?_ ?_
  · refine for_goes (v := .rng 1 ((T : Nat) + 1)) (by kernel_rfl) (iter_rng (by omega) (by omega)) ?_
    unfold rngV
    rw [show (((T : Nat) : Int) + 1 - 1).toNat = T from by omega]
    exact sizes_loop w ha hb hc hd he hf hT _
  rintro _ ⟨size, rfl⟩
  rw [hsel]
  refine cons_dQ (assign_den (methL_den (f := false) (g := false) rfl (by kernel_rfl) rfl (q_new w ha hb hc hd he hf hg))) ?_
  show Q (XS.den _ [.val sc, .val (cellsV c0 c1 c2 c3), .val (runsV a b c), .val (runsV d e f), .val (.int g), .val (.str t2), .val (.inst 181 (fsV t1 n1 s1 (cnt a b c) g)), .val (.inst 181 (fsV t2 n2 s2 (cnt d e f) g)), .val (.int (T : Nat)), row, .val (.list ((frs c0 c1 c2 c3 T).map .int)), size, .val (.int (gnF c0 c1 c2 c3 (fun k => (wh a b c (k + 1) : Nat)) (List.range T) 0)), whole, over, .own true (sizesL a b c d e f g), .val (witV a b c d e f g), .unset, .unset, .unset, .unset, .unset, .unset])
  refine sE (cols w (t1 := t1) (t2 := t2) (n1 := n1) (n2 := n2) (s1 := s1) (s2 := s2) (g := g) ha hb hc hd he hf (selN a b c d e f g) .unset fun k m => by have := hlt k m; omega) fun σ2 hcol => ?_
  have hflat : (sizesL a b c d e f g).all V.flat = true := by
    unfold sizesL
    rw [List.all_map, List.all_eq_true]; intro x _; rfl
  refine cons_dQ (ite_den (c := false) (cmpT_den (x := witV a b c d e f g) (f := false) (g := false) rfl (listComp_den (comp_den (v := .list (sizesL a b c d e f g)) (bf := true) (xs := sizesL a b c d e f g) (τ := [.val (.inst 181 (fsV t1 n1 s1 (cnt a b c) g)), .val (.inst 181 (fsV t2 n2 s2 (cnt d e f) g))]) rfl ?_ ?_ rfl hcol ?_)) (ne_wit a b c d e f g)) nil_den) ?_
  · exact iterV_list (by unfold sizesL; rw [List.length_map]; omega)
  · rw [hflat]; rfl
  · exact lenOk_le (by rw [List.length_map]; omega)
  refine cons_dQ (assign_den rfl) ?_
  refine cons_denQ (fun σ => ∃ sz ov fa ne sp, σ = [.val sc, .val (cellsV c0 c1 c2 c3), .val (runsV a b c), .val (runsV d e f), .val (.int g), .val (.str t2), .val (.inst 181 (fsV t1 n1 s1 (cnt a b c) g)), .val (.inst 181 (fsV t2 n2 s2 (cnt d e f) g)), .val (.int (T : Nat)), row, .val (.list ((frs c0 c1 c2 c3 T).map .int)), sz, .val (.int (gnF c0 c1 c2 c3 (fun k => (wh a b c (k + 1) : Nat)) (List.range T) 0)), whole, ov, .own true (sizesL a b c d e f g), .val (witV a b c d e f g), .val (.int (gnF c0 c1 c2 c3 (fun k => ((wh a b c (k + 1) : Nat) : Int) - (wh d e f (k + 1) : Nat)) (selN a b c d e f g) 0)), fa, ne, sp, .unset, .unset]) ?_ ?_
  · refine sEA (gain_loop w (v0 := .val sc) (v1 := .val (cellsV c0 c1 c2 c3)) (v2 := .val (runsV a b c)) (v3 := .val (runsV d e f)) (v4 := .val (.int g)) (v5 := .val (.str t2)) (v6 := .val (.inst 181 (fsV t1 n1 s1 (cnt a b c) g))) (v7 := .val (.inst 181 (fsV t2 n2 s2 (cnt d e f) g))) (v8 := .val (.int (T : Nat))) (v9 := row) (x12 := .val (.int (gnF c0 c1 c2 c3 (fun k => (wh a b c (k + 1) : Nat)) (List.range T) 0))) (x13 := whole) (x15 := .own true (sizesL a b c d e f g)) (x16 := .val (witV a b c d e f g)) (x21 := .unset) (x22 := .unset) (g := g) (T := T) (c0 := c0) (c1 := c1) (c2 := c2) (c3 := c3) ha hb hc hd he hf hT (selN a b c d e f g) 0 size over .unset .unset .unset hlt) fun σ3 e3 p3 => ?_
    refine ⟨σ3, forT_den (xs := (selN a b c d e f g).map (itemV a b c d e f g)) rfl ?_ e3, p3⟩
    rw [lenOk_le (by rw [List.length_map]; omega), List.all_map, Bool.true_and, List.all_eq_true]
    intro x _; rfl
  rintro _ ⟨sz, ov, fa, ne, sp, rfl⟩
  refine cons_dQ (ite_den (c := false) (cmpT_den (f := false) (g := false) rfl (bin_den (f := false) (g := false) rfl (callL_den (denL_cons0 rfl (denL_cons0 rfl rfl)) (q_heft w c0 c1 c2 c3 hd he hf)) rfl) ?_) nil_den) (k _ _ _ _ _ _)
  rw [hge]
  exact ne_self _
noncomputable def lw_due (w : World) : XS (u0 w) 4 nm_law :=
  (XS.cons
   (X1.assign 22 "words" .local (by rfl) (by decide) (XE.bin .Add (XE.bin .Add (XE.str "indent not equal e.g. at tab size" 0 ⟨246, 16, 246, 51⟩) (XE.ifx (XT.cmp .Gt (XE.callB "len" (.builtin "len") lenC [⟨(XE.loc 15 ⟨246, 66, 246, 71⟩ "sizes" .local (by rfl)), rfl⟩] ⟨246, 62, 246, 65⟩ ⟨246, 62, 246, 72⟩ (by rfl) Keepable.bi (by decide +kernel) (by rfl)) (XE.int 1 0 ⟨246, 75, 246, 76⟩) ⟨246, 62, 246, 76⟩ (by rfl)) (XE.str "s" 0 ⟨246, 55, 246, 58⟩) (XE.str "" 0 ⟨246, 82, 246, 84⟩) ⟨246, 55, 246, 84⟩) ⟨246, 16, 246, 85⟩) (XE.str " " 0 ⟨246, 88, 246, 91⟩) ⟨246, 16, 246, 91⟩) ⟨246, 8, 246, 13⟩ ⟨246, 8, 246, 91⟩ (fun _ => rfl))
   (XS.cons
   (X1.assign 21 "due" .local (by rfl) (by decide) (XE.list [⟨(XE.idx (XE.loc 1 ⟨247, 15, 247, 20⟩ "cells" .local (by rfl)) (XE.int 3 0 ⟨247, 21, 247, 22⟩) ⟨247, 15, 247, 23⟩), rfl⟩, ⟨(XE.bin .Add (XE.loc 22 ⟨247, 25, 247, 30⟩ "words" .local (by rfl)) (XE.join (XE.str ", " 0 ⟨247, 33, 247, 37⟩) [⟨(XE.listComp (C' := nm_law_c1) 1 [] ((PySem.Expr.Call (func := (PySem.Expr.Name "str" ⟨247, 44, 247, 47⟩)) (args := [(PySem.Expr.Name "size" ⟨247, 48, 247, 52⟩)]) (keywords := []) (pos := ⟨247, 44, 247, 53⟩))) [] ({ kind := PySem.ScopeKind.function, names := [ (PySem.Str.ofString ".0", PySem.NameKind.local), (PySem.Str.ofString "size", PySem.NameKind.local), (PySem.Str.ofString "str", PySem.NameKind.globalImplicit)], isGenerator := false, isCoroutine := false, more := [] : PySem.Scope }) ⟨247, 43, 247, 72⟩ (XG.name 0 "size" .local (by rfl) (by decide) ⟨247, 58, 247, 62⟩) (XE.loc 15 ⟨247, 66, 247, 71⟩ "sizes" .local (by rfl)) Option.none (XCB.emit (XE.callB "str" (.type "str") strC [⟨(XE.loc 0 ⟨247, 48, 247, 52⟩ "size" .local (by rfl)), rfl⟩] ⟨247, 44, 247, 47⟩ ⟨247, 44, 247, 53⟩ (by rfl) Keepable.ty (by decide +kernel) (by rfl))) (CompOK.of (by decide +kernel)) (fun _ _ _ => by rfl) (fun _ _ => rfl) (fun _ _ => rfl)), rfl⟩] ⟨247, 33, 247, 42⟩ ⟨247, 33, 247, 73⟩ (fun _ => rfl) (Nat.le_of_ble_eq_true rfl) (by rfl)) ⟨247, 25, 247, 73⟩), rfl⟩, ⟨(XE.loc 5 ⟨247, 75, 247, 79⟩ "line" .local (by rfl)), rfl⟩] ⟨247, 14, 247, 80⟩ (Nat.le_of_ble_eq_true rfl)) ⟨247, 8, 247, 11⟩ ⟨247, 8, 247, 80⟩ (fun _ => rfl))
   XS.nil))
noncomputable def subs : List Nat → List (List Nat)
  | [] => [[]]
  | k :: r => subs r ++ (subs r).map (k :: ·)
noncomputable def sub5 : List (List Nat) := subs [0, 1, 2, 3, 4]
theorem filter_subs (P : Nat → Bool) : ∀ l : List Nat, l.filter P ∈ subs l
  | [] => List.mem_cons_self
  | k :: r => by
    have ih := filter_subs P r
    cases h : P k with
    | true =>
      rw [List.filter_cons_of_pos h]
      exact List.mem_append_right _ (List.mem_map_of_mem ih)
    | false =>
      rw [List.filter_cons_of_neg (by rw [h]; decide)]
      exact List.mem_append_left _ ih
theorem sel_range {T : Nat} (hT : T < 6) (P : Nat → Bool) : (List.range T).filter P = (List.range 5).filter fun k => decide (k < T) && P k := by
  have e : List.range T = (List.range 5).filter fun k => decide (k < T) := lt6 (P := fun T => List.range T = (List.range 5).filter fun k => decide (k < T)) rfl rfl rfl rfl rfl rfl T hT
  rw [e, List.filter_filter]
  congr 1
  funext k
  exact Bool.and_comm _ _
theorem sel_sub5 {a b c d e f g : Nat} (h : topN a b c d e f g < 6) : selN a b c d e f g ∈ sub5 := by
  unfold selN
  rw [sel_range h]
  exact filter_subs _ _
noncomputable def joinCs : List Nat → List Nat
  | [] => []
  | [k] => [49 + k]
  | k :: r => (49 + k) :: 44 :: 32 :: joinCs r
noncomputable def preC : List Nat := [105, 110, 100, 101, 110, 116, 32, 110, 111, 116, 32, 101, 113, 117, 97, 108, 32, 101, 46, 103, 46, 32, 97, 116, 32, 116, 97, 98, 32, 115, 105, 122, 101]
noncomputable def msgS (ks : List Nat) : Str := ⟨(preC ++ ((if ks.length > 1 then [115] else []) ++ 32 :: joinCs ks)).toArray⟩
noncomputable def wrdS (ks : List Nat) : Str := ⟨(preC ++ ((if ks.length > 1 then [115] else []) ++ [32])).toArray⟩
noncomputable def sizV (ks : List Nat) : List V := ks.map fun (k : Nat) => V.int ((k + 1 : Nat) : Int)
theorem due_tab (w : World) {v0 v2 v3 v4 v6 v7 v8 v9 v10 v11 v12 v13 v14 v16 v17 v18 v19 v20 v21 v22 : SV} {c0 c1 c2 c3 : Int} {t : Str} : sub5.map (fun ks => (lw_due w).den [v0, .val (cellsV c0 c1 c2 c3), v2, v3, v4, .val (.str t), v6, v7, v8, v9, v10, v11, v12, v13, v14, .own true (sizV ks), v16, v17, v18, v19, v20, v21, v22]) = sub5.map fun ks => some (.next, [v0, .val (cellsV c0 c1 c2 c3), v2, v3, v4, .val (.str t), v6, v7, v8, v9, v10, v11, v12, v13, v14, .own true (sizV ks), v16, v17, v18, v19, v20, .val (.list [.int c3, .str (msgS ks), .str t]), .val (.str (wrdS ks))]) := by kernel_rfl
theorem zrow (w : World) {m d : Int} {zl : List (Str × Int)} (zz : (List.range 24).map (fun (h : Nat) => (c_law_zone w).den [.int m, .int d, .int h]) = zl.map fun p => some (.tup [.str p.1, .int p.2])) (zo : zl.map (fun p => (c_offset_from_tz_string w).den [.str p.1]) = zl.map fun p => some (.int p.2)) (zm : zl.map (fun p => (p.2.fmod 3600).fdiv 60) = zl.map fun _ => m) {h : Int} (h0 : 0 ≤ h) (h1 : h < 24) :
    ∃ t due, (c_law_zone w).den [.int m, .int d, .int h] = some (.tup [.str t, .int due]) ∧ (c_offset_from_tz_string w).den [.str t] = some (.int due) ∧ (due.fmod 3600).fdiv 60 = m := by
  refine sEA (nat_lt (m := 24) (n := h) ⟨h0, h1⟩) fun k z1 hk => ?_; (first | subst z1 | cases (z1))
  have e := congrArg (fun l => l[k]?) zz
  rw [List.getElem?_map, List.getElem?_map, List.getElem?_range hk] at e
  cases hp : zl[k]? with
  | none => rw [hp] at e; exact nn1 e
  | some p =>
    rw [hp] at e
    have mp := List.mem_of_getElem? hp
    have e2 := tabF zo mp
    have e3 := tabF zm mp
    exact ⟨p.1, p.2, Option.some.inj e, e2, e3⟩
theorem five {d : Int} (h0 : 0 ≤ d) (h1 : d < 5) : d = 0 ∨ d = 1 ∨ d = 2 ∨ d = 3 ∨ d = 4 := by omega
theorem zone_ok (w : World) : ∀ m : Int, m ∈ ([0, 12, 15, 20, 24, 30, 36, 40, 45, 48] : List Int) → ZoneOK w m := by
  intro m hm d h d0 d1 h0 h1
  simp only [List.mem_cons, List.not_mem_nil, or_false] at hm
  have hd := five d0 d1
  rcases hm with rfl | rfl | rfl | rfl | rfl | rfl | rfl | rfl | rfl | rfl
  · rcases hd with rfl | rfl | rfl | rfl | rfl
    · exact zrow w (zz0_0 w) (zo0_0 w) zm0_0 h0 h1
    · exact zrow w (zz0_1 w) (zo0_1 w) zm0_1 h0 h1
    · exact zrow w (zz0_2 w) (zo0_2 w) zm0_2 h0 h1
    · exact zrow w (zz0_3 w) (zo0_3 w) zm0_3 h0 h1
    · exact zrow w (zz0_4 w) (zo0_4 w) zm0_4 h0 h1
  · rcases hd with rfl | rfl | rfl | rfl | rfl
    · exact zrow w (zz12_0 w) (zo12_0 w) zm12_0 h0 h1
    · exact zrow w (zz12_1 w) (zo12_1 w) zm12_1 h0 h1
    · exact zrow w (zz12_2 w) (zo12_2 w) zm12_2 h0 h1
    · exact zrow w (zz12_3 w) (zo12_0 w) zm12_0 h0 h1
    · exact zrow w (zz12_4 w) (zo12_4 w) zm12_4 h0 h1
  · rcases hd with rfl | rfl | rfl | rfl | rfl
    · exact zrow w (zz15_0 w) (zo15_0 w) zm15_0 h0 h1
    · exact zrow w (zz15_1 w) (zo15_1 w) zm15_1 h0 h1
    · exact zrow w (zz15_2 w) (zo15_2 w) zm15_2 h0 h1
    · exact zrow w (zz15_3 w) (zo15_0 w) zm15_0 h0 h1
    · exact zrow w (zz15_4 w) (zo15_4 w) zm15_4 h0 h1
  · rcases hd with rfl | rfl | rfl | rfl | rfl
    · exact zrow w (zz20_0 w) (zo20_0 w) zm20_0 h0 h1
    · exact zrow w (zz20_1 w) (zo20_1 w) zm20_1 h0 h1
    · exact zrow w (zz20_2 w) (zo20_2 w) zm20_2 h0 h1
    · exact zrow w (zz20_3 w) (zo20_0 w) zm20_0 h0 h1
    · exact zrow w (zz20_4 w) (zo20_4 w) zm20_4 h0 h1
  · rcases hd with rfl | rfl | rfl | rfl | rfl
    · exact zrow w (zz24_0 w) (zo24_0 w) zm24_0 h0 h1
    · exact zrow w (zz24_1 w) (zo24_1 w) zm24_1 h0 h1
    · exact zrow w (zz24_2 w) (zo24_2 w) zm24_2 h0 h1
    · exact zrow w (zz24_3 w) (zo24_0 w) zm24_0 h0 h1
    · exact zrow w (zz24_4 w) (zo24_4 w) zm24_4 h0 h1
  · rcases hd with rfl | rfl | rfl | rfl | rfl
    · exact zrow w (zz30_0 w) (zo30_0 w) zm30_0 h0 h1
    · exact zrow w (zz30_1 w) (zo30_1 w) zm30_1 h0 h1
    · exact zrow w (zz30_2 w) (zo30_2 w) zm30_2 h0 h1
    · exact zrow w (zz30_3 w) (zo30_0 w) zm30_0 h0 h1
    · exact zrow w (zz30_4 w) (zo30_4 w) zm30_4 h0 h1
  · rcases hd with rfl | rfl | rfl | rfl | rfl
    · exact zrow w (zz36_0 w) (zo36_0 w) zm36_0 h0 h1
    · exact zrow w (zz36_1 w) (zo36_1 w) zm36_1 h0 h1
    · exact zrow w (zz36_2 w) (zo36_2 w) zm36_2 h0 h1
    · exact zrow w (zz36_3 w) (zo36_0 w) zm36_0 h0 h1
    · exact zrow w (zz36_4 w) (zo36_4 w) zm36_4 h0 h1
  · rcases hd with rfl | rfl | rfl | rfl | rfl
    · exact zrow w (zz40_0 w) (zo40_0 w) zm40_0 h0 h1
    · exact zrow w (zz40_1 w) (zo40_1 w) zm40_1 h0 h1
    · exact zrow w (zz40_2 w) (zo40_2 w) zm40_2 h0 h1
    · exact zrow w (zz40_3 w) (zo40_0 w) zm40_0 h0 h1
    · exact zrow w (zz40_4 w) (zo40_0 w) zm40_0 h0 h1
  · rcases hd with rfl | rfl | rfl | rfl | rfl
    · exact zrow w (zz45_0 w) (zo45_0 w) zm45_0 h0 h1
    · exact zrow w (zz45_1 w) (zo45_1 w) zm45_1 h0 h1
    · exact zrow w (zz45_2 w) (zo45_2 w) zm45_2 h0 h1
    · exact zrow w (zz45_3 w) (zo45_0 w) zm45_0 h0 h1
    · exact zrow w (zz45_4 w) (zo45_0 w) zm45_0 h0 h1
  · rcases hd with rfl | rfl | rfl | rfl | rfl
    · exact zrow w (zz48_0 w) (zo48_0 w) zm48_0 h0 h1
    · exact zrow w (zz48_1 w) (zo48_1 w) zm48_1 h0 h1
    · exact zrow w (zz48_2 w) (zo48_2 w) zm48_2 h0 h1
    · exact zrow w (zz48_3 w) (zo48_0 w) zm48_0 h0 h1
    · exact zrow w (zz48_4 w) (zo48_0 w) zm48_0 h0 h1
theorem eq_ints (xs ys : List Int) : eqV (.list (xs.map .int)) (.list (ys.map .int)) = some (xs == ys) := by
  have hd : ∀ xs : List Int, V.data (.list (xs.map .int)) = some (.list (xs.map .int)) := by
    intro xs
    unfold V.data
    rw [datas_ints]; rfl
  have hs : ∀ xs : List Int, SeqAt.shaped (.list (xs.map .int)) = true := by
    intro xs
    unfold SeqAt.shaped
    rw [Bool.and_eq_true]
    constructor
    · exact lay_ints xs
    · refine decide_eq_true ?_
      show PyData.depthAll (xs.map .int) + 1 ≤ 64
      rw [depth_ints]; decide
  unfold eqV
  rw [hd, hd]
  dsimp only
  rw [hs, hs]
  show some (PyData.eqvAll (xs.map .int) (ys.map .int)) = _
  rw [eqv_ints]
noncomputable def Lw.dueV {w : World} (l : Lw w) : V := if (cnt l.a l.b l.c == cnt l.d l.e l.f) = true then .list [] else .list [.int l.c3, .str (msgS (selN l.a l.b l.c l.d l.e l.f l.g)), .str l.t2]
theorem sorted_den {u : U} {n : Nat} (a b c : Nat) : (sortedC : Co u n (.builtin "sorted")).den [runsV a b c] = some (.list ((sortL [(a : Int), (b : Int), (c : Int)]).map .int)) := rfl
set_option maxHeartbeats 4000000 in
theorem law_D (w : World) (l : Lw w) (row fresh size heft whole over gain far near steps : SV) : ∃ words, (lw_D w).den (l.st row fresh size heft whole over (.own true (sizesL l.a l.b l.c l.d l.e l.f l.g)) (.val (witV l.a l.b l.c l.d l.e l.f l.g)) gain far near steps .unset .unset) = some (.next, l.st row fresh size heft whole over (.own true (sizesL l.a l.b l.c l.d l.e l.f l.g)) (.val (witV l.a l.b l.c l.d l.e l.f l.g)) gain far near steps (.val l.dueV) words) := by
  have hT := l.T_lt
  obtain ⟨sc, c0, c1, c2, c3, a, b, c, d, e, f, g, t1, t2, n1, n2, s1, s2, ha, hb, hc, hd, he, hf, hg, ht⟩ := l
  have hsub := sel_sub5 hT
  have hbag := bag_eq ha hb hc hd he hf
  have hcmp : cmpop .NotEq (.list ((sortL [(a : Int), (b : Int), (c : Int)]).map .int)) (.list ((sortL [(d : Int), (e : Int), (f : Int)]).map .int)) = some (!(cnt a b c == cnt d e f)) := by
    show (eqV _ _).map not = _
    rw [eq_ints, hbag]; rfl
  unfold Lw.st sL Lw.dueV
  dsimp only [Lw.T, Lw.i1, Lw.i2]
  generalize (cnt a b c == cnt d e f) = q at *
  have hz : sizesL a b c d e f g = sizV (selN a b c d e f g) := rfl
  rw [hz]
  generalize selN a b c d e f g = ks at *
  unfold lw_D
  have h0 : ∀ (x : X1 (u0 w) 4 nm_law) (r : XS (u0 w) 4 nm_law), True := fun _ _ => trivial
  cases q with
  | true =>
    refine ⟨.unset, cons_den (assign_den rfl) (cons_den (ite_den (c := false) (cmpT_den (f := false) (g := false) (callB_den (denL_cons0 rfl rfl) (sorted_den a b c)) (callB_den (denL_cons0 rfl rfl) (sorted_den d e f)) hcmp) nil_den) nil_den)⟩
  | false =>
    refine ⟨_, cons_den (assign_den rfl) (cons_den (ite_den (c := true) (cmpT_den (f := false) (g := false) (callB_den (denL_cons0 rfl rfl) (sorted_den a b c)) (callB_den (denL_cons0 rfl rfl) (sorted_den d e f)) hcmp) (tabF (due_tab w) hsub)) nil_den)⟩
noncomputable def Lw.fin {w : World} (l : Lw w) (row fresh size heft whole over gain far near steps words : SV) : List SV := l.st row fresh size heft whole over (.own true (sizesL l.a l.b l.c l.d l.e l.f l.g)) (.val (witV l.a l.b l.c l.d l.e l.f l.g)) gain far near steps (.val l.dueV) words
theorem law_den (w : World) (xs : List Int) (hx : xs.length ≤ 63) : ∃ (l : Lw w) (row fresh size heft whole over gain far near steps words : SV), (b_law w).den (sigma nm_law [.list (xs.map .int)]) = some (.next, l.fin row fresh size heft whole over gain far near steps words) := by
  refine sEEEE (cells_ok w xs hx) fun c0 c1 c2 c3 h1 => ?_
  refine sE (law_A w (zone_ok w) (.list (xs.map .int)) c0 c1 c2 c3) fun l h2 => ?_
  refine ⟨l, ?_⟩
  rw [h1, h2 _ rfl]
  refine law_B w l (Q := fun r => ∃ (row fresh size heft whole over gain far near steps words : SV), r = some (.next, l.fin row fresh size heft whole over gain far near steps words)) fun size whole over => ?_
  refine law_C w l (Q := fun r => ∃ (row fresh size heft whole over gain far near steps words : SV), r = some (.next, l.fin row fresh size heft whole over gain far near steps words)) rfl fun size over gain far near steps => ?_
  refine sE (law_D w l (.val (.list (rowL l.T))) (.val (.list ((frs l.c0 l.c1 l.c2 l.c3 l.T).map .int))) size (.val (.int (gnF l.c0 l.c1 l.c2 l.c3 (fun k => (wh l.a l.b l.c (k + 1) : Nat)) (List.range l.T) 0))) whole over gain far near steps) fun words h => ?_
  exact ⟨_, _, _, _, _, _, _, _, _, _, words, h⟩
section
variable {prog : Program} {w : World} {A : Around} {E : Value → Shared → Prop} {s : Shared} {K : Frag} {x C : Addr} {ox : Obj} {od : Option Obj} {name : Str} {expr : Bool}
open PySem.Builtin PySem.Builtin.ObjectAttr
theorem exc_get {v : Value} {Q : Value → Shared → Prop} (X : K.In s.heap) (I : InstAt s.heap x ox C od) (hga : findIn K (.ref C) "__getattribute__" = some (some (.builtin "BaseException.__getattribute__"))) (hgt : findIn K (.ref C) "__getattr__" = some none)
    (hm : mroIn K C (.type "BaseException") = some true) (hf : findObj K C od name = some (.value v)) (hh : handedIn v = true) (h : Q v { s with toks := s.toks + 1 }) : wpAny (model prog w) A (getAttr (.ref x) name expr) Q E s := by
  obtain ⟨hh', g, d, t, os⟩ := s
  have L0 := I.type (M := model prog w)
  have L1 := looks_findIn (M := model prog w) X hga
  have L2 := looks_findIn (M := model prog w) X hgt
  have L3 := looks_find (M := model prog w) X I hf
  have sub : Looks (model prog w) hh' (isInstance (.ref x) (.type "BaseException")) true := L0.andThen (looks_mroIn X hm)
  have FA := PySem.F.attr_Exception
  have f3 := FA.ga.bind (.ref x)
  unfold getAttr getAttrBy
  refine wpAny_bind (wpAny_mkText (wpAny_holding (wpAny_bind (L0.at (wpAny_bind (L1.at ?_))))))
  show wpAny _ _ (getAttrByItsOwn _ _ _ _ _ _) _ _ _
  unfold getAttrByItsOwn
  refine wpAny_bind (L2.at (wpAny_bind (wpAny_attempt (wpAny_holding ?_))))
  unfold callGetattribute
  rw [if_neg (by cases (expr) <;> decide)]
  unfold boundAndCalled
  rw [f3]
  refine wpAny_bind (wpAny_pure ?_)
  refine wpAny_call (codeAny_call_builtin FA.ga.plain PySem.F.entry_bexc_ga (@check_slot (model prog w) _ _ _ "BaseException.__getattribute__" "BaseException" "__getattribute__" (.ref x) [.str name t] [] _ (by decide +kernel) (by decide +kernel) (sub) (PySem.F.args_bexc_ga (.ref x) (.str name t)) ?_))
  show wpAny _ _ (Builtin.«object.__getattribute__» _) _ _ _
  unfold Builtin.«object.__getattribute__»
  refine wpAny_bind (wpAny_pure ?_)
  refine wpAny_bind (wpAny_pure (wpAny_bind (L0.at (wpAny_bind (L3.at ?_)))))
  refine wpAny_pure ?_
  show wpAny _ _ (handedOut v) _ _ _
  rw [handedOut_of hh]; exact wpAny_pure h
theorem exc_method {pl : Sem Bool} {f : Addr} {Q : Value × List Value → Shared → Prop} (X : K.In s.heap) (I : InstAt s.heap x ox C od) (hga : findIn K (.ref C) "__getattribute__" = some (some (.builtin "BaseException.__getattribute__"))) (hk : findIn K (.ref C) "__getattr__" = some none)
    (hf : findIn K (.ref C) name = some (some (.ref f))) (ht : typeIn K (.ref f) = some (.type "function")) (hs : shadowIn od name = some false) (h : Q (.ref f, [.ref x]) s) :
    wpAny (model prog w) A (getMethod (.ref x) name pl) Q E s := by
  have hcan : (Manifest.canonical "BaseException.__getattribute__" != "object.__getattribute__") = false := by decide +kernel
  unfold getMethod specialOf
  refine wpAny_bind (wpAny_bind (I.type.here ((looks_findIn X hga).here ?_)))
  dsimp only
  rw [hcan, if_neg (by decide)]
  refine wpAny_bind (wpAny_bind (I.type.here ((looks_findIn X hk).here ?_)))
  refine wpAny_bind (wpAny_bind (I.type.here ((looks_findIn X hf).here (wpAny_bind ((looks_typeIn X ht).here ?_)))))
  rw [if_neg (by decide +kernel)]
  refine wpAny_bind (wpAny_loadPart I.at_ ?_)
  have hd := I.dict
  unfold shadowIn at hs
  cases e : ox.dict with
  | none => exact wpAny_bind (wpAny_rule (wpAny_pure h))
  | some dx =>
    cases od with
    | none => rw [e] at hd; exact hd.elim
    | some o =>
      rw [e] at hd
      refine sEA (Option.map_eq_some_iff.mp hs) fun r hr hr2 => ?_
      refine wpAny_bind (wpAny_bind (wpAny_loadPart hd ?_))
      rw [nsLook_of hr]
      refine wpAny_pure ?_
      rw [hr2]
      exact wpAny_bind (wpAny_rule (wpAny_pure h))
end
section
variable {prog : Program} {w : World} {A : Around} {E : Value → Shared → Prop} {s : Shared} {K : Frag} {x C : Addr} {ox : Obj} {od : Option Obj} {name : Str} {expr : Bool}
open PySem.Builtin PySem.Builtin.ObjectAttr
noncomputable def ExcAt (h : Heap) (x C : Addr) (vs : Array Value) : Option Addr → (Str → Option Value) → Prop
  | none, m => h.get? x = some { cls := .ref C, dict := none, data := .fields vs } ∧ ∀ y, m y = none
  | some dx, m => h.get? x = some { cls := .ref C, dict := some dx, data := .fields vs } ∧ dx ≠ x ∧ h.Ns1 dx m
theorem lookIn_ns {h : Heap} {dx : Addr} {m : Str → Option Value} (n : h.Ns1 dx m) : ∃ o, h.get? dx = some o ∧ ∀ name, lookIn name o = some (m name) := by
  obtain ⟨o, es, ep, ho, hd, hk, hu, hm⟩ := n
  refine ⟨o, ho, fun name => ?_⟩
  unfold lookIn
  rw [hd]
  dsimp only
  have h1 := hm name
  unfold nsFind findBy at h1
  rw [← Array.find?_toList] at h1
  cases e : es.toList.find? (fun e => e.key.isStr name) with
  | some en =>
    rw [e] at h1
    dsimp only
    exact congrArg some h1
  | none =>
    rw [e] at h1
    dsimp only
    have : es.toList.any (·.refKey) = false := by
      rw [List.any_eq_false]
      intro b hb
      refine sEE (hk b (Array.mem_toList_iff.mp hb)) fun n t q => ?_
      simp [DictEntry.refKey, q]
    rw [this]
    exact congrArg some h1
theorem ExcAt.inst {h : Heap} {vs : Array Value} {dx : Addr} {m : Str → Option Value} (e : ExcAt h x C vs (some dx) m) : ∃ o, InstAt h x { cls := .ref C, dict := some dx, data := .fields vs } C (some o) ∧ ∀ name, lookIn name o = some (m name) := by
  refine sEA (lookIn_ns e.2.2) fun o ho hl => ?_
  exact ⟨o, ⟨e.1, rfl, rfl, ho⟩, hl⟩
theorem exc_osa {vs : Array Value} {dx? : Option Addr} {m : Str → Option Value} {tk : Tok} {v : Value} {R : Result → Shared → Prop} {cd : ClassData} {bm : List Value} (X : K.In s.heap) (e : ExcAt s.heap x C vs dx? m) (hc : clsIn K C = some cd) (hmro : cd.mro = .ref C :: bm)
    (SF : StoreFacts "Exception" bm "object.__setattr__" "object") (hhd : cd.hasDict = true) (hn : findIn K (.ref C) name = some none) {ns : List Str} (hw : Within m ns) (hsz : ns.length ≤ 100)
    (h : ∀ h' dx' tk', ExcAt h' x C vs (some dx') (fun y => if y = name then some v else m y) → (∀ b o, b ≠ x → b ≠ dx' → s.heap.get? b = some o → h'.get? b = some o) → (∀ d, dx? = some d → dx' = d) → (dx? = none → s.heap.get? dx' = none) → R (.ok (.ret .none)) { s with heap := h', toks := tk' }) :
    codeAny (model prog w) A (.call (.builtin "object.__setattr__") ⟨[.ref x, .str name tk, v], []⟩) R s := by
  obtain ⟨hh, g, d, t, os⟩ := s
  have hx : hh.get? x = some { cls := .ref C, dict := dx?, data := .fields vs } := by cases (dx?) <;> exact e.1
  have T0 : Looks (model prog w) hh (typeOf (.ref x)) (.ref C) := (Looks.ld hx).andThen .now
  have sub : Looks (model prog w) hh (isInstance (.ref x) (.type "object")) true := T0.andThen (looks_mroIn X (by unfold mroIn; rw [hc, Option.bind_some, hmro, if_neg (show ¬ ((Value.ref C :: bm).isEmpty = true) from fun q => by exact nn2 q)]; rw [List.contains_cons, SF.hasOwner, Bool.or_true]))
  refine codeAny_call_builtin SF.slot.plain SF.entry (@check_slot (model prog w) _ _ _ "object.__setattr__" "object" "__setattr__" (.ref x) [.str name tk, v] [] _ SF.kind SF.split sub (SF.args (.ref x) (.str name tk) v) ?_)
  have hm : Looks (model prog w) hh (mroOf (.ref C)) cd.mro := (looks_clsIn X hc).andThen .now
  rw [osa_eq, refuse_eq]
  refine wpAny_bind (wpAny_bind (T0.here (wpAny_bind (hm.here ?_))))
  rw [hmro, refuseLoop_ref, SF.passes]
  refine wpAny_pure (wpAny_bind (T0.here (wpAny_bind ((looks_findIn X hn).here (wpAny_bind (wpAny_pure ?_))))))
  show wpAny _ _ (storeInOwnDict (.ref x) (.ref C) (.str name tk) name v false) _ _ _
  refine wpAny_bind (wpAny_pure (wpAny_bind (wpAny_bind (wpAny_loadPart hx (wpAny_bind ((looks_clsIn X hc).here ?_))))))
  rw [hhd]
  cases dx? with
  | some dx =>
    refine sAA e fun _ hne hns => ?_; try clear e
    refine wpAny_pure (a := some dx) ?_
    show wpAny _ _ (storeInDict dx (.str name tk) name v) _ _ _
    unfold storeInDict newKeyGuard
    refine wpAny_bind (wpAny_pure (wpAny_bind (wpAny_nsSet1 hns fun h' hn' hs => ?_)))
    refine sEEEAA (hn'.count (Within.cons name v hw)) fun oD esD epD hoD hdD hcD => ?_
    refine wpAny_bind (wpAny_lookBehind hoD (by rw [hdD]; exact pastItsLine_dict (Nat.le_trans hcD (by rw [List.length_cons, sizeLine_eq]; omega))) ?_)
    refine wpAny_pure ?_
    exact h h' dx _ ⟨(hs.2 x hne.symm).trans hx, hne, hn'⟩ (fun b o hb hbd hbo => (hs.2 b hbd).trans hbo) (fun d q => by (refine inj1 q ?_; clear q); rfl) (fun q => by exact nn1 q)
  | none =>
    have hxs : x ≠ hh.objs.size := Nat.ne_of_lt (Heap.lt_size hx)
    have hx₁ : (hh.push { cls := .type "dict", data := .dict #[] }).get? x = some { cls := .ref C, dict := none, data := .fields vs } := Heap.get?_push_of_some _ hx
    dsimp only
    refine wpAny_bind (wpAny_alloc' ?_)
    refine wpAny_bind (wpAny_update' hx₁ ?_)
    refine wpAny_pure ?_
    have hgd : ((hh.push { cls := .type "dict", data := .dict #[] }).update x fun o => { o with dict := some hh.objs.size }).get? hh.objs.size = some { cls := .type "dict", data := .dict #[] } :=
      (Heap.get?_update_ne _ _ _ _ hxs.symm).trans (Heap.get?_push_at rfl rfl)
    have hnd : ((hh.push { cls := .type "dict", data := .dict #[] }).update x fun o => { o with dict := some hh.objs.size }).Ns hh.objs.size (fun _ => none) :=
      ⟨_, #[], _, hgd, rfl, fun e he => absurd he (by simp), fun _ => rfl⟩
    show wpAny _ _ (storeInDict hh.objs.size (.str name tk) name v) _ _ _
    unfold storeInDict newKeyGuard
    refine wpAny_bind (wpAny_pure (wpAny_bind (wpAny_nsSet1 (Heap.Ns1.of_empty hnd) fun h' hn' hs => ?_)))
    refine sEEEAA (hn'.count (Within.cons name v Within.nil)) fun oD esD epD hoD hdD hcD => ?_
    refine wpAny_bind (wpAny_lookBehind hoD (by rw [hdD]; exact pastItsLine_dict (Nat.le_trans hcD (by rw [List.length_cons, List.length_nil, sizeLine_eq]; omega))) ?_)
    refine wpAny_pure ?_
    have hm0 : (fun y => if y = name then some v else none) = (fun y => if y = name then some v else m y) := by funext y; rw [e.2 y]
    rw [hm0] at hn'
    refine h h' hh.objs.size _ ⟨(hs.2 x hxs).trans (Heap.get?_update_self _ hx₁ rfl), hxs.symm, hn'⟩ (fun b o hb hbd hbo => (hs.2 b hbd).trans ((Heap.get?_update_ne _ _ _ _ hb).trans (Heap.get?_push_of_some _ hbo))) (fun d q => by exact nn0 q) fun _ => fresh_size hh
theorem exc_set {vs : Array Value} {dx? : Option Addr} {m : Str → Option Value} {v : Value} {Q : Unit → Shared → Prop} {cd : ClassData} {bm : List Value} (X : K.In s.heap) (e : ExcAt s.heap x C vs dx? m) (hc : clsIn K C = some cd) (hmro : cd.mro = .ref C :: bm)
    (SF : StoreFacts "Exception" bm "object.__setattr__" "object") (hhd : cd.hasDict = true) (hn : findIn K (.ref C) name = some none) (hsa : findIn K (.ref C) "__setattr__" = some (some (.builtin "object.__setattr__"))) {ns : List Str} (hw : Within m ns) (hsz : ns.length ≤ 100)
    (h : ∀ h' dx' tk', ExcAt h' x C vs (some dx') (fun y => if y = name then some v else m y) → (∀ b o, b ≠ x → b ≠ dx' → s.heap.get? b = some o → h'.get? b = some o) → (∀ d, dx? = some d → dx' = d) → (dx? = none → s.heap.get? dx' = none) → Q () { s with heap := h', toks := tk' }) :
    wpAny (model prog w) A (setAttr (.ref x) name v) Q E s := by
  have hx : s.heap.get? x = some { cls := .ref C, dict := dx?, data := .fields vs } := by cases (dx?) <;> exact e.1
  have T0 : ∀ h', h' = s.heap → Looks (model prog w) h' (typeOf (.ref x)) (.ref C) := fun h' q => q ▸ (Looks.ld hx).andThen .now
  refine wpAny_bind (wpAny_mkText (wpAny_bind (wpAny_bind (wpAny_bind ((T0 _ rfl) _ _ _ _ (fun _ _ e => e) (looks_findIn X hsa _ _ _ _ (fun _ _ e => e) (wpAny_holding ?_)))))))
  rw [PySem.F.store_object.slot.bind]
  refine wpAny_bind (wpAny_pure (wpAny_bind (wpAny_call (exc_osa (s := { s with toks := s.toks + 1 }) X e hc hmro SF hhd hn hw hsz fun h' dx' tk' a b c d => ?_))))
  exact wpAny_pure (wpAny_pure (h h' dx' tk' a b c d))
end
section
variable {u : U} {n : Nat} {C : Nm}
theorem call_frame {fa : Addr} {ss : List Stmt} (hD : DefOK u fa C ss) {args : List V} (hl : args.length ≤ C.slots.length)
    (hbind : ∀ vs : List Value, vs.length = args.length → bindArgs (fdOf u.K fa) ⟨vs, []⟩ = pure ((C.slots.map (·.1)).zip vs))
    {hb : Heap} {A : Around} {W : List Addr} {s : Shared} {vs : List Value} (B : Base u hb) (rm : Room (n + 1) A) (le : LeB hb s.heap) (al : ∀ a ∈ W, s.heap.get? a ≠ none) (rs : Rs (hideAll s.heap W) args vs) {Q : Value → Shared → Prop}
    (h : ∀ (h₀ : Heap) (tk : Nat) (env : Env), env.locals = s.heap.objs.size → env.frame = some s.heap.objs.size → env.scope.kind = .function → env.globals = mainGlobals → env.builtins = builtinsNs → env.code = (fdOf u.K fa).code → (∀ x, env.kindOf x = (fdOf u.K fa).scope.names.lookup x) →
      DOk u n C { hb := hb, he := s.heap, A := A.deeper env, W := W, env := env } → Inv C { hb := hb, he := s.heap, A := A.deeper env, W := W, env := env } (sigma C args) h₀ (csOf C vs) → s.heap.objs.size < h₀.objs.size → Le s.heap h₀ →
      wpAny (model u.prog u.w) (A.deeper env) (execs ss env) (fun f s' => Q (match f with | .ret v => v | _ => .none) s') NoE { s with heap := h₀, toks := tk }) :
    wpAny (model u.prog u.w) A (call (.ref fa) vs) Q NoE s := by
  refine wpAny_call ?_
  have X : u.K.In s.heap := B.X.keeps le.le
  have e := rs.length
  refine sEEE (isDef_of hD.isdef) fun oc od osl hK => ?_
  have hlen : ((C.slots.map (·.1)).zip vs).map (·.1) = (C.slots.map (·.1)).take vs.length := fst_zip _ _
  have hnm := NmOK.of hD.nm
  refine codeAny_call_def rm.dep (X _ _ hK) rfl (B.lim.keeps le.le) (codeRec_of X hD.code) hD.body (BindsTo.of_eq (hbind vs e.symm)) hD.noCell ?_ (fun h₀ hns hk => ?_) hD.co hD.gen hnm.kind
  · intro x m
    have hx : x.1 ∈ C.slots.map (·.1) := by
      have : x.1 ∈ ((C.slots.map (·.1)).zip vs).map (·.1) := List.mem_map_of_mem m
      rw [hlen] at this
      exact List.mem_of_mem_take this
    refine sEA (List.mem_map.mp hx) fun p hp e => ?_
    have h1 := hnm.kinds p hp
    have h2 := List.all_eq_true.mp hD.loc p hp
    rw [beq_iff_eq] at h2
    rw [← e, h1, h2]
  · have D : DOk u n C { hb := hb, he := s.heap, A := A.deeper (callEnv (fdOf u.K fa) s.heap.objs.size fa), W := W, env := callEnv (fdOf u.K fa) s.heap.objs.size fa } :=
      ⟨⟨hnm.kind, hD.glob, hD.bi, fun p m => .inl (hnm.kinds p m), hnm.globs, hnm.three, fun p m _ _ h => absurd (beq_iff_eq.mp (List.all_eq_true.mp hD.loc p m)) h, hnm.nodup, hnm.noClass⟩, B, le.le, rm.deeper, al, le.size⟩
    have r1 : Rs (hideAll h₀ (W ++ [s.heap.objs.size])) args vs := rs.mono (Le.hides fun b o e nn => ⟨hk b o e, fun m => by
      rcases List.mem_append.mp m with m | m
      · exact nn m
      · cases List.mem_singleton.mp m
        rw [fresh_size] at e; exact nn0 e⟩)
    have I : Inv C { hb := hb, he := s.heap, A := A.deeper (callEnv (fdOf u.K fa) s.heap.objs.size fa), W := W, env := callEnv (fdOf u.K fa) s.heap.objs.size fa } (sigma C args) h₀ (csOf C vs) :=
      Inv.begin hD.loc hnm.nodup hl hns r1 (fun b o e => hk b o e) (fresh_size _)
    exact wpAny_mono (h h₀ _ (callEnv (fdOf u.K fa) s.heap.objs.size fa) rfl rfl hnm.kind hD.glob hD.bi rfl (fun x => rfl) D I hns.lt hk) (fun _ _ q => q) fun _ _ f => f.elim
end
noncomputable def nnES (w : World) : Array DictEntry := entsOf (u0 w).K 115
noncomputable def nnM (w : World) (y : Str) : Option Value := nsFind (nnES w) y
noncomputable def nnTok (w : World) (i : Nat) : Tok := match (u0 w).K.lookup 116 with
  | some ⟨_, _, _, sl⟩ => match sl[i]? with
    | some (some (.str _ t)) => t
    | _ => 0
  | _ => 0
noncomputable def nnBm : List Value := [.type "Exception", .type "BaseException", .type "object"]
noncomputable def nnObj (w : World) : Obj := excClassObj "NannyNag" "NannyNag" 116 115 [.type "Exception"] nnBm true [] [] false none none (some (.ref 79)) none (some (.str "NannyNag" (nnTok w 2))) (some (.str "NannyNag" (nnTok w 3))) (some (.bool true)) "Exception.__new__"
theorem nn_obj (w : World) : (u0 w).K.lookup 116 = some (nnObj w) := by kernel_rfl
theorem nn_dict (w : World) : (u0 w).K.lookup 115 = some ⟨.type "dict", none, .dict (nnES w) (entsN (u0 w).K 115), #[]⟩ := by kernel_rfl
theorem nn_keys (w : World) : ((nnES w).toList.all fun e => match e.key with | .str _ _ => true | _ => false) = true := by kernel_rfl
theorem nn_ns {w : World} {h : Heap} (X : (u0 w).K.In h) : h.Ns 115 (nnM w) := by
  refine ⟨_, _, _, X _ _ (nn_dict w), rfl, fun e he => ?_, fun _ => rfl⟩
  have := List.all_eq_true.mp (nn_keys w) e (Array.mem_toList_iff.mpr he)
  (refine Classical.byContradiction fun hnn => ?_; split at (this) <;> (refine hnn ?_; clear hnn))
  · rename_i y t q; exact ⟨y, t, q⟩
  · exact nn2 this
theorem nn_init (w : World) : nnM w "__init__" = some (.ref 92) := by kernel_rfl
theorem nn_f1 (w : World) : findIn (u0 w).K (.ref 116) "__setattr__" = some (some (.builtin "object.__setattr__")) := by kernel_rfl
theorem nn_f2 (w : World) : findIn (u0 w).K (.ref 116) "__getattribute__" = some (some (.builtin "BaseException.__getattribute__")) := by kernel_rfl
theorem nn_f3 (w : World) : findIn (u0 w).K (.ref 116) "__getattr__" = some none := by kernel_rfl
theorem nn_f4 (w : World) : findIn (u0 w).K (.ref 116) "lineno" = some none := by kernel_rfl
theorem nn_f5 (w : World) : findIn (u0 w).K (.ref 116) "msg" = some none := by kernel_rfl
theorem nn_f6 (w : World) : findIn (u0 w).K (.ref 116) "line" = some none := by kernel_rfl
theorem nn_f7 (w : World) : mroIn (u0 w).K 116 (.type "BaseException") = some true := by kernel_rfl
theorem nn_f8 (w : World) : hasDictIn (u0 w).K 116 = true := by kernel_rfl
noncomputable def nnCd (w : World) : ClassData := match clsIn (u0 w).K 116 with
  | some cd => cd
  | none => default
theorem nn_cd (w : World) : clsIn (u0 w).K 116 = some (nnCd w) := by kernel_rfl
theorem nn_mro (w : World) : (nnCd w).mro = .ref 116 :: nnBm := by kernel_rfl
theorem nn_hd (w : World) : (nnCd w).hasDict = true := by kernel_rfl
noncomputable def nm_init : Nm := ⟨[("self", .local), ("lineno", .local), ("msg", .local), ("line", .local)], []⟩
noncomputable def tgInit (name : Str) (np p : Pos) : PySem.Expr := .Attribute (.Name "self" np) name p
noncomputable def ss_init : List Stmt := [.Assign [.Tuple [tgInit "lineno" ⟨72, 8, 72, 12⟩ ⟨72, 8, 72, 19⟩, tgInit "msg" ⟨72, 21, 72, 25⟩ ⟨72, 21, 72, 29⟩, tgInit "line" ⟨72, 31, 72, 35⟩ ⟨72, 31, 72, 40⟩] 0 ⟨72, 8, 72, 40⟩]
  (.Tuple [.Name "lineno" ⟨72, 44, 72, 50⟩, .Name "msg" ⟨72, 52, 72, 55⟩, .Name "line" ⟨72, 57, 72, 61⟩] 0 ⟨72, 43, 72, 62⟩) ⟨72, 8, 72, 62⟩]
theorem d_init (w : World) : DefOK (u0 w) 92 nm_init ss_init := ⟨by kernel_rfl, by kernel_rfl, by kernel_rfl, by kernel_rfl, by kernel_rfl, by kernel_rfl, by kernel_rfl, by kernel_rfl, by kernel_rfl, by kernel_rfl⟩
theorem e_init (w : World) : ∀ vs : List Value, vs.length = 4 → bindArgs (fdOf (u0 w).K 92) ⟨vs, []⟩ = pure ((nm_init.slots.map (·.1)).zip vs) := fun vs e => by
  refine len4 (P := fun l => bindArgs _ ⟨l, []⟩ = pure (List.zip _ l)) (fun a0 a1 a2 a3 => ?_) vs e
  kernel_rfl
noncomputable def nm_get : Nm := ⟨[("self", .local)], []⟩
noncomputable def ss_get (name : Str) (np p q : Pos) : List Stmt := [.Return (some (.Attribute (.Name "self" np) name p)) q]
theorem e_get1 (w : World) : ∀ vs : List Value, vs.length = 1 → bindArgs (fdOf (u0 w).K 99) ⟨vs, []⟩ = pure ((nm_get.slots.map (·.1)).zip vs) := fun vs e => by
  refine len1 (P := fun l => bindArgs _ ⟨l, []⟩ = pure (List.zip _ l)) (fun a0 => ?_) vs e
  kernel_rfl
theorem e_get2 (w : World) : ∀ vs : List Value, vs.length = 1 → bindArgs (fdOf (u0 w).K 106) ⟨vs, []⟩ = pure ((nm_get.slots.map (·.1)).zip vs) := fun vs e => by
  refine len1 (P := fun l => bindArgs _ ⟨l, []⟩ = pure (List.zip _ l)) (fun a0 => ?_) vs e
  kernel_rfl
theorem e_get3 (w : World) : ∀ vs : List Value, vs.length = 1 → bindArgs (fdOf (u0 w).K 113) ⟨vs, []⟩ = pure ((nm_get.slots.map (·.1)).zip vs) := fun vs e => by
  refine len1 (P := fun l => bindArgs _ ⟨l, []⟩ = pure (List.zip _ l)) (fun a0 => ?_) vs e
  kernel_rfl
theorem d_get1 (w : World) : DefOK (u0 w) 99 nm_get (ss_get "lineno" ⟨75, 15, 75, 19⟩ ⟨75, 15, 75, 26⟩ ⟨75, 8, 75, 26⟩) := ⟨by kernel_rfl, by kernel_rfl, by kernel_rfl, by kernel_rfl, by kernel_rfl, by kernel_rfl, by kernel_rfl, by kernel_rfl, by kernel_rfl, by kernel_rfl⟩
theorem d_get2 (w : World) : DefOK (u0 w) 106 nm_get (ss_get "msg" ⟨78, 15, 78, 19⟩ ⟨78, 15, 78, 23⟩ ⟨78, 8, 78, 23⟩) := ⟨by kernel_rfl, by kernel_rfl, by kernel_rfl, by kernel_rfl, by kernel_rfl, by kernel_rfl, by kernel_rfl, by kernel_rfl, by kernel_rfl, by kernel_rfl⟩
theorem d_get3 (w : World) : DefOK (u0 w) 113 nm_get (ss_get "line" ⟨81, 15, 81, 19⟩ ⟨81, 15, 81, 24⟩ ⟨81, 8, 81, 24⟩) := ⟨by kernel_rfl, by kernel_rfl, by kernel_rfl, by kernel_rfl, by kernel_rfl, by kernel_rfl, by kernel_rfl, by kernel_rfl, by kernel_rfl, by kernel_rfl⟩
section
variable {u : U} {C : Nm}
theorem call_plain {fa : Addr} {ss : List Stmt} (hD : DefOK u fa C ss) {A : Around} {s : Shared} {vs : List Value} (hl : vs.length ≤ C.slots.length)
    (hbind : bindArgs (fdOf u.K fa) ⟨vs, []⟩ = pure ((C.slots.map (·.1)).zip vs)) (X : u.K.In s.heap) (lim : s.heap.NoLimit) (dep : A.depth < recursionLimit) {Q : Value → Shared → Prop}
    (h : ∀ (h₀ : Heap) (tk : Nat) (env : Env) (m : Str → Option Value), env.scope.kind = .function → (∀ p ∈ C.slots, env.kindOf p.1 = some p.2) → h₀.Ns env.locals m → (∀ (i : Nat) (x : Str), (C.slots.map (·.1))[i]? = some x → m x = vs[i]?) → env.locals = s.heap.objs.size → Le s.heap h₀ →
      wpAny (model u.prog u.w) (A.deeper env) (execs ss env) (fun f s' => Q (match f with | .ret v => v | _ => .none) s') NoE { s with heap := h₀, toks := tk }) :
    wpAny (model u.prog u.w) A (call (.ref fa) vs) Q NoE s := by
  refine wpAny_call ?_
  refine sEEE (isDef_of hD.isdef) fun oc od osl hK => ?_
  have hlen : ((C.slots.map (·.1)).zip vs).map (·.1) = (C.slots.map (·.1)).take vs.length := fst_zip _ _
  have hnm := NmOK.of hD.nm
  refine codeAny_call_def dep (X _ _ hK) rfl lim (codeRec_of X hD.code) hD.body (BindsTo.of_eq hbind) hD.noCell ?_ (fun h₀ hns hk => ?_) hD.co hD.gen hnm.kind
  · intro x m
    have hx : x.1 ∈ C.slots.map (·.1) := by
      have : x.1 ∈ ((C.slots.map (·.1)).zip vs).map (·.1) := List.mem_map_of_mem m
      rw [hlen] at this
      exact List.mem_of_mem_take this
    refine sEA (List.mem_map.mp hx) fun p hp e => ?_
    have h1 := hnm.kinds p hp
    have h2 := List.all_eq_true.mp hD.loc p hp
    rw [beq_iff_eq] at h2
    rw [← e, h1, h2]
  · exact wpAny_mono (h h₀ _ (callEnv (fdOf u.K fa) s.heap.objs.size fa) _ hnm.kind (fun p m => hnm.kinds p m) hns (fun i x hx => lookup_zip _ _ hnm.nodup (by rw [List.length_map]; exact hl) i x hx) rfl hk) (fun _ _ q => q) fun _ _ f => f.elim
end
section
variable {A : Around} {s : Shared} {w : World}
theorem name_at {env : Env} {x : Str} {p : Pos} {m : Str → Option Value} {v : Value} {M : Model} {Q : Value → Shared → Prop} {E : Value → Shared → Prop} (hk : env.scope.kind = .function) (hx : env.kindOf x = some .local) (hn : s.heap.Ns env.locals m) (hv : m x = some v) (hd : (x == ("__debug__" : Str)) = false) (h : Q v s) : wpAny M A (eval (.Name x p) env) Q E s :=
  wpAny_Name (wpAny_loadName_local hk hx hn hv h) hd
theorem nn_getter {fa : Addr} {name : Str} {np p q : Pos} (hD : DefOK (u0 w) fa nm_get (ss_get name np p q)) (hb : ∀ vs : List Value, vs.length = 1 → bindArgs (fdOf (u0 w).K fa) ⟨vs, []⟩ = pure ((nm_get.slots.map (·.1)).zip vs)) (hn : findIn (u0 w).K (.ref 116) name = some none)
    {e dx : Addr} {vs : Array Value} {m : Str → Option Value} {v : Value} (X : (u0 w).K.In s.heap) (lim : s.heap.NoLimit) (dep : A.depth < recursionLimit) (he : ExcAt s.heap e 116 vs (some dx) m) (hv : m name = some v) (hh : handedIn v = true) {Q : Value → Shared → Prop}
    (h : ∀ h' tk', Le s.heap h' → Q v { s with heap := h', toks := tk' }) : wpAny (model (u0 w).prog (u0 w).w) A (call (.ref fa) [.ref e]) Q NoE s := by
  refine call_plain hD (C := nm_get) (Nat.le_of_ble_eq_true rfl) (hb _ rfl) X lim dep fun h₀ tk env m₀ hk hkind hns hm hL le => ?_
  refine wpAny_execs_cons (wpAny_Return_some ?_)
  refine Attribute_any_ (name_at hk (hkind ("self", .local) List.mem_cons_self) hns (hm 0 "self" rfl) (by decide) ?_)
  have he' : ExcAt h₀ e 116 vs (some dx) m := ⟨le _ _ he.1, he.2.1, he.2.2.keeps le⟩
  refine sEA he'.inst fun o I hl => ?_
  exact exc_get (K := (u0 w).K) (X.keeps le) I (nn_f2 w) (nn_f3 w) (nn_f7 w) (findObj_own (nn_f8 w) hn rfl (by rw [hl, hv])) hh (h _ _ le)
end
section
variable {A : Around} {s : Shared} {w : World}
theorem tg_store {env : Env} {name : Str} {np p : Pos} {m₀ : Str → Option Value} {e : Addr} {vs : Array Value} {dx? : Option Addr} {m : Str → Option Value} {v : Value} {Q : Unit → Shared → Prop} {E : Value → Shared → Prop} (hk : env.scope.kind = .function) (hx : env.kindOf "self" = some .local) (hn : s.heap.Ns env.locals m₀) (hv : m₀ "self" = some (.ref e))
    (X : (u0 w).K.In s.heap) (he : ExcAt s.heap e 116 vs dx? m) (hnm : findIn (u0 w).K (.ref 116) name = some none) {ns : List Str} (hw : Within m ns) (hsz : ns.length ≤ 100)
    (h : ∀ h' dx' tk', ExcAt h' e 116 vs (some dx') (fun y => if y = name then some v else m y) → (∀ b o, b ≠ e → b ≠ dx' → s.heap.get? b = some o → h'.get? b = some o) → (∀ d, dx? = some d → dx' = d) → (dx? = none → s.heap.get? dx' = none) → Q () { s with heap := h', toks := tk' }) :
    wpAny (model (u0 w).prog (u0 w).w) A (PySem.assign (tgInit name np p) env v) Q E s := by
  show wpAny _ _ (holding [v] (eval (.Name "self" np) env) >>= _) _ _ s
  refine wpAny_bind (wpAny_holding (name_at hk hx hn hv (by decide) ?_))
  refine wpAny_bind (wpAny_standAt (wpAny_bind (wpAny_holding ?_)))
  refine exc_set (K := (u0 w).K) X he (nn_cd w) (nn_mro w) PySem.F.store_Exception (nn_hd w) hnm (nn_f1 w) hw hsz fun h' dx' tk' a b c d => ?_
  exact wpAny_release (h h' dx' tk' a b c d)
noncomputable def m3 (x1 x2 x3 : Value) (y : Str) : Option Value := if y = "line" then some x3 else if y = "msg" then some x2 else if y = "lineno" then some x1 else none
theorem ns_ne {h : Heap} {L e C : Addr} {m : Str → Option Value} {vs : Array Value} {d : Option Addr} {m2 : Str → Option Value} (hn : h.Ns L m) (he : ExcAt h e C vs d m2) : L ≠ e := by
  rintro rfl
  refine sEEEAA hn fun o es ep ho hd _ => ?_; try clear hn
  have he0 : h.get? L = some { cls := .ref C, dict := d, data := .fields vs } := by cases (d) <;> exact he.1
  rw [ho] at he0; cases (he0); cases (hd)
theorem sw_init (env : Env) : swappedStores [.Tuple [tgInit "lineno" ⟨72, 8, 72, 12⟩ ⟨72, 8, 72, 19⟩, tgInit "msg" ⟨72, 21, 72, 25⟩ ⟨72, 21, 72, 29⟩, tgInit "line" ⟨72, 31, 72, 35⟩ ⟨72, 31, 72, 40⟩] 0 ⟨72, 8, 72, 40⟩] (.Tuple [.Name "lineno" ⟨72, 44, 72, 50⟩, .Name "msg" ⟨72, 52, 72, 55⟩, .Name "line" ⟨72, 57, 72, 61⟩] 0 ⟨72, 43, 72, 62⟩) env = pure none := by
  unfold swappedStores
  generalize env.blockKind = b
  cases (b) <;> rfl
theorem nn_init_call {hb : Heap} {W : List Addr} {e : Addr} {vs : Array Value} {v1 v2 v3 : V} {u1 u2 u3 : Value} (B : Base (u0 w) hb) (rm : Room 1 A) (le : LeB hb s.heap) (al : ∀ a ∈ W, s.heap.get? a ≠ none) (r1 : R (hideAll s.heap W) v1 u1) (r2 : R (hideAll s.heap W) v2 u2) (r3 : R (hideAll s.heap W) v3 u3) (f1 : v1.flat = true) (f2 : v2.flat = true) (f3 : v3.flat = true)
    (he : s.heap.get? e = some { cls := .ref 116, dict := none, data := .fields vs }) (hbe : hb.get? e = none) {Q : Value → Shared → Prop}
    (h : ∀ s' dx x1 x2 x3, Sm s s' → ExcAt s'.heap e 116 vs (some dx) (m3 x1 x2 x3) → s.heap.get? dx = none → (∀ b o, b ≠ e → s.heap.get? b = some o → s'.heap.get? b = some o) → (∀ g, R g v1 x1) → (∀ g, R g v2 x2) → (∀ g, R g v3 x3) → Q .none s') :
    wpAny (model (u0 w).prog (u0 w).w) A (call (.ref 92) [.ref e, u1, u2, u3]) Q NoE s := by
  refine call_frame (n := 0) (args := [.raw (.ref e), v1, v2, v3]) (d_init w) (Nat.le_of_ble_eq_true rfl) (e_init w) B rm le al (.cons (.raw _) (.cons r1 (.cons r2 (.cons r3 .nil)))) fun h₀ tk env hL hfr hk hg hbi hcd hkind D I hlt leh => ?_
  have T : ∃ v b, (XE.tup (u := u0 w) (n := 0) (C := nm_init) [⟨XE.loc 1 ⟨72, 44, 72, 50⟩ "lineno" .local (by rfl), rfl⟩, ⟨XE.loc 2 ⟨72, 52, 72, 55⟩ "msg" .local (by rfl), rfl⟩, ⟨XE.loc 3 ⟨72, 57, 72, 61⟩ "line" .local (by rfl), rfl⟩] 0 ⟨72, 43, 72, 62⟩ (Nat.le_of_ble_eq_true rfl)).den (sigma nm_init [.raw (.ref e), v1, v2, v3]) = some (.tup [v1, v2, v3], false) := ⟨V.none, false, rfl⟩
  have z1 := T; clear T; refine sEE z1 fun _ _ T => ?_; clear z1
  refine wpAny_execs_cons (wpAny_Assign_stores (ex ((XE.tup (u := u0 w) (n := 0) (C := nm_init) [⟨XE.loc 1 ⟨72, 44, 72, 50⟩ "lineno" .local (by rfl), rfl⟩, ⟨XE.loc 2 ⟨72, 52, 72, 55⟩ "msg" .local (by rfl), rfl⟩, ⟨XE.loc 3 ⟨72, 57, 72, 61⟩ "line" .local (by rfl), rfl⟩] 0 ⟨72, 43, 72, 62⟩ (Nat.le_of_ble_eq_true rfl)).snd _ _ _ T _ _ _ D I) fun x s₁ q => ?_) rfl (sw_init env))
  refine sA q fun kp r => ?_; try clear q
  refine sEEA kp fun h1 tk1 z2 le1 => ?_; try clear kp; (first | subst z2 | cases (z2))
  have I1 := I.keeps (h' := h1) le1
  refine R.tupC r fun us a eqx ht hr => ?_
  clear r; cases (eqx)
  refine Rs.consC hr fun x1 us eqx q1 rX => ?_
  clear hr; cases (eqx); revert rX; intro hr
  refine Rs.consC hr fun x2 us eqx q2 rX => ?_
  clear hr; cases (eqx); revert rX; intro hr
  refine Rs.consC hr fun x3 us eqx q3 rX => ?_
  clear hr; cases (eqx); revert rX; intro hr
  (refine Rs.nilC hr fun z35 => ?_; clear hr; cases (z35))
  show wpAny _ _ (PySem.assign (.Tuple [tgInit "lineno" ⟨72, 8, 72, 12⟩ ⟨72, 8, 72, 19⟩, tgInit "msg" ⟨72, 21, 72, 25⟩ ⟨72, 21, 72, 29⟩, tgInit "line" ⟨72, 31, 72, 35⟩ ⟨72, 31, 72, 40⟩] 0 ⟨72, 8, 72, 40⟩) env (.ref a)) _ _ _
  refine wpAny_assign_Tuple D.room.handled (IsTup.of_hide ht) rfl rfl fun h2 eb => ?_
  have le2 : Le h1 h2 := fun b o e => eb b o (fun q => by rw [q, fresh_size] at e; exact nn0 e) e
  have I2 := I1.keeps (h' := h2) le2
  have le02 : Le s.heap h2 := (leh.trans le1).trans le2
  have X2 : (u0 w).K.In h2 := B.X.keeps (le.le.trans le02)
  have he2 : ExcAt h2 e 116 vs none fun _ => none := ⟨le02 _ _ he, fun _ => rfl⟩
  refine sEA I2.ns fun m hn hs => ?_
  have hself : m "self" = some (.ref e) := hs 0 ("self", .local) (.val (.ref e)) rfl rfl
  have hks : env.kindOf "self" = some .local := (D.env.kinds ("self", .local) List.mem_cons_self).resolve_right fun z => by cases z.1
  show wpAny _ _ (assignInOrder [PySem.assign (tgInit "lineno" ⟨72, 8, 72, 12⟩ ⟨72, 8, 72, 19⟩) env, PySem.assign (tgInit "msg" ⟨72, 21, 72, 25⟩ ⟨72, 21, 72, 29⟩) env, PySem.assign (tgInit "line" ⟨72, 31, 72, 35⟩ ⟨72, 31, 72, 40⟩) env] [x1, x2, x3]) _ _ _
  have hne := ns_ne hn he2
  refine wpAny_assignInOrder_more (tg_store hk hks hn hself X2 he2 (nn_f4 w) Within.nil (by decide) fun h3 dx tk3 he3 k3 _ fr3 => ?_)
  have fr := fr3 rfl
  have k3' : ∀ b o, b ≠ e → h2.get? b = some o → h3.get? b = some o := fun b o hb hbo => k3 b o hb (fun q => by rw [q, fr] at hbo; exact nn0 hbo) hbo
  have hdxL : env.locals ≠ dx := fun q => by refine sEEEA hn fun o _ _ ho _ => ?_; try clear hn; rw [q, fr] at ho; exact nn0 ho
  have hn3 : h3.Ns env.locals m := hn.at' fun o ho => k3' _ o hne ho
  have hbK : ∀ h', (∀ b o, b ≠ e → h2.get? b = some o → h'.get? b = some o) → (u0 w).K.In h' := fun h' k => B.X.keeps fun b o hbo => k b o (fun q => by rw [q, hbe] at hbo; exact nn0 hbo) (le02 b o (le.le b o hbo))
  refine wpAny_assignInOrder_more (tg_store hk hks hn3 hself (hbK _ k3') he3 (nn_f5 w) (Within.cons _ _ Within.nil) (by decide) fun h4 dx4 tk4 he4 k4 sm4 _ => ?_)
  obtain rfl := sm4 dx rfl
  have k4' : ∀ b o, b ≠ e → h2.get? b = some o → h4.get? b = some o := fun b o hb hbo => k4 b o hb (fun q => by rw [q, fr] at hbo; exact nn0 hbo) (k3' b o hb hbo)
  have hn4 : h4.Ns env.locals m := hn.at' fun o ho => k4' _ o hne ho
  refine wpAny_assignInOrder_more (tg_store hk hks hn4 hself (hbK _ k4') he4 (nn_f6 w) (Within.cons _ _ (Within.cons _ _ Within.nil)) (by decide) fun h5 dx5 tk5 he5 k5 sm5 _ => ?_)
  obtain rfl := sm5 dx4 rfl
  have k5' : ∀ b o, b ≠ e → h2.get? b = some o → h5.get? b = some o := fun b o hb hbo => k5 b o hb (fun q => by rw [q, fr] at hbo; exact nn0 hbo) (k4' b o hb hbo)
  refine wpAny_assignInOrder_none ?_
  refine wpAny_execs_nil ?_
  refine h _ _ x1 x2 x3 ⟨h5, _, rfl⟩ ?_ (le02.none fr) (fun b o hb hbo => k5' b o hb (le02 b o hbo)) (fun g => q1.of_flat f1) (fun g => q2.of_flat f2) (fun g => q3.of_flat f3)
  exact he5
end
section
variable {A : Around} {s : Shared} {w : World}
theorem nn_fn (w : World) : ∃ o, (u0 w).K.lookup 92 = some o ∧ o.cls = .type "function" := by
  refine sEEE (isDef_of (d_init w).isdef) fun oc od osl h => ?_
  have h2 : typeIn (u0 w).K (.ref 92) = some (.type "function") := by kernel_rfl
  refine sEA (Option.map_eq_some_iff.mp (show ((u0 w).K.lookup 92).map (·.cls) = some (.type "function") from h2)) fun o ho hc => ?_
  exact ⟨o, ho, hc⟩
theorem nn_call {hb : Heap} {W : List Addr} {v1 v2 v3 : V} {u1 u2 u3 : Value} (B : Base (u0 w) hb) (rm : Room 2 A) (le : LeB hb s.heap) (al : ∀ a ∈ W, s.heap.get? a ≠ none) (r1 : R (hideAll s.heap W) v1 u1) (r2 : R (hideAll s.heap W) v2 u2) (r3 : R (hideAll s.heap W) v3 u3) (f1 : v1.flat = true) (f2 : v2.flat = true) (f3 : v3.flat = true) {top : Addr} (ht : s.heap.get? top ≠ none) (htop : hb.objs.size ≤ top)
    {Q : Value → Shared → Prop}
    (h : ∀ s' e dx t x1 x2 x3, Sm s s' → ExcAt s'.heap e 116 #[.ref t, .none, .none, .none, .bool false, .none] (some dx) (m3 x1 x2 x3) → s.heap.get? e = none → s.heap.get? dx = none → Le s.heap s'.heap → (∀ g, R g v1 x1) → (∀ g, R g v2 x2) → (∀ g, R g v3 x3) → Q (.ref e) s') :
    wpAny (model (u0 w).prog (u0 w).w) A (call (.ref 116) [u1, u2, u3]) Q NoE s := by
  have X : (u0 w).K.In s.heap := B.X.keeps le.le
  refine sEA (nn_fn w) fun oI hI hIc => ?_
  have hC : s.heap.get? 116 = some (nnObj w) := X _ _ (nn_obj w)
  have hn := nn_ns X
  obtain ⟨hp, gg, dd, tt, oo⟩ := s
  refine wpAny_call_exc_init PySem.F.excBase_Exception hC hn (nn_init w) (X _ _ hI) hIc (fun h' e hm => ?_) (Nat.le_of_ble_eq_true rfl)
  refine sEAA hm.there fun t het htn htt => ?_
  have k : Le hp h' := hm.keeps
  have hbe : hb.get? e = none := le.le.none hm.new
  refine nn_init_call (s := ⟨h', gg, dd, tt, oo⟩) (hb := hb) (W := W) B rm.under ⟨le.le.trans k, ?_⟩ (fun a m => ?_) (r1.of_flat f1) (r2.of_flat f2) (r3.of_flat f3) f1 f2 f3 het hbe fun s' dx x1 x2 x3 sm he hdx kk q1 q2 q3 => ?_
  · cases q : hp.get? top with
    | none => exact absurd q ht
    | some o => exact Nat.le_trans htop (Nat.le_of_lt (Heap.lt_size (k _ _ q)))
  · cases q : hp.get? a with
    | none => exact absurd q (al a m)
    | some o => rw [k a o q]; exact fun z => by exact nn1 z
  · refine ⟨rfl, h s' e dx t x1 x2 x3 sm he hm.new (k.none hdx) (fun b o hbo => kk b o (fun q => ?_) (k b o hbo)) q1 q2 q3⟩
    rw [q, hm.new] at hbo; exact nn0 hbo
end
noncomputable def nm_gx : Nm := ⟨[("tup", .local)], ["str"]⟩
noncomputable def sc_gx : Scope := { kind := .function, names := [(".0", .local), ("tup", .local), ("str", .globalImplicit)], isGenerator := true, isCoroutine := false }
noncomputable def xe_gx (w : World) : XE (u0 w) 0 nm_gx := XE.callB "str" (.type "str") strC [⟨XE.idx (XE.loc 0 ⟨136, 18, 136, 21⟩ "tup" .local (by rfl)) (XE.int 0 0 ⟨136, 22, 136, 23⟩) ⟨136, 18, 136, 24⟩, rfl⟩] ⟨136, 14, 136, 17⟩ ⟨136, 14, 136, 25⟩ (by rfl) Keepable.ty (by decide +kernel) (by rfl)
noncomputable def nmS (k : Nat) : Str := ⟨#[49 + k]⟩
theorem gx_den (w : World) {k : Nat} (hk : k < 6) (a b : V) : (xe_gx w).den [.val (.tup [.int ((k + 1 : Nat) : Int), a, b])] = some (.str (nmS k), false) :=
  lt6 (P := fun k => (xe_gx w).den [.val (.tup [.int ((k + 1 : Nat) : Int), a, b])] = some (.str (nmS k), false)) (by kernel_rfl) (by kernel_rfl) (by kernel_rfl) (by kernel_rfl) (by kernel_rfl) (by kernel_rfl) k hk
theorem nm_gx_ok : NmOK nm_gx sc_gx := NmOK.of (by decide +kernel)
theorem gx_elt (w : World) {hb : Heap} {A' : Around} {s : Shared} {env : Env} {m : Str → Option Value} {v : Value} {k : Nat} {a b : V} (B : Base (u0 w) hb) (hsc : env.scope = sc_gx) (hg : env.globals = mainGlobals) (hbi : env.builtins = builtinsNs)
    (hd : A'.depth < recursionLimit) (hu : A'.units + 200 < cLine) (hh : A'.handled = none) (hn : s.heap.Ns env.locals m) (hv : m "tup" = some v) (le : ∀ b o, hb.get? b = some o → s.heap.get? b = some o ∧ b ≠ env.locals) (ab : hb.objs.size ≤ env.locals) (hk : k < 6)
    (r : R (hideAll s.heap [env.locals]) (.tup [.int ((k + 1 : Nat) : Int), a, b]) v) :
    wpAny (model (u0 w).prog (u0 w).w) A' (eval (xe_gx w).e env) (fun y s' => (∃ t, y = .str (nmS k) t) ∧ Keeps s s') NoE s := by
  have hkind : ∀ x, env.kindOf x = sc_gx.names.lookup x := fun x => by unfold Env.kindOf; rw [hsc]
  have D : DOk (u0 w) 0 nm_gx { hb := hb, he := hideAll s.heap [env.locals], A := A', W := [], env := env } :=
    ⟨⟨by rw [hsc]; rfl, hg, hbi, fun p q => .inl (by rw [hkind]; exact nm_gx_ok.kinds p q), fun x q => by rw [hkind]; exact nm_gx_ok.globs x q, nm_gx_ok.three, fun p q _ _ h => absurd (by
      have := List.mem_singleton.mp q; rw [this]) h, nm_gx_ok.nodup, nm_gx_ok.noClass⟩, B, fun b o e => hideAll_get _ (le b o e).1 (fun q => (le b o e).2 (List.mem_singleton.mp q)), ⟨by omega, by omega, hh⟩, (fun a q => by exact nn4 q), ab⟩
  have ew : wr nm_gx { hb := hb, he := hideAll s.heap [env.locals], A := A', W := [], env := env } [.val v] = [env.locals] := rfl
  have I : Inv nm_gx { hb := hb, he := hideAll s.heap [env.locals], A := A', W := [], env := env } [.val (.tup [.int ((k + 1 : Nat) : Int), a, b])] s.heap [.val v] := by
    refine ⟨⟨m, hn, fun i p c e1 e2 => ?_⟩, rfl, rfl, fun i sv c e1 e2 => ?_, Le.hide _ _, fun a q => ?_, (fun q => by exact nn4 q), (fun a q => by exact nn4 q), fun i j c c' _ e1 _ a q => ?_, fun i x dx e1 => ?_⟩
    · match i, e1, e2 with
      | 0, e1, e2 => cases (e1); cases (e2); exact hv
      | i + 1, e1, e2 => exact nn0 e1
    · match i, e1, e2 with
      | 0, e1, e2 => cases (e1); (refine inj1 e2 ?_; clear e2); rw [ew]; exact .val r
      | i + 1, e1, e2 => exact nn0 e1
    · rw [ew] at q; exact hideAll_none _ q
    · match i, e1 with
      | 0, e1 => cases (e1); exact nn4 q
      | i + 1, e1 => exact nn0 e1
    · match i, e1 with
      | 0, e1 => cases (e1)
      | i + 1, e1 => exact nn0 e1
  refine ex ((xe_gx w).snd _ _ _ (gx_den w hk a b) _ s _ D I) fun y s' q => ⟨?_, q.1⟩
  have q2 := q.2
  refine R.strC q2 fun t eqx => ?_
  clear q2; cases (eqx)
  exact ⟨t, rfl⟩
section
variable {u : U} {n : Nat} {C : Nm}
theorem Inv.shift {d : Dy} {σ : List SV} {h h' : Heap} {cs : List CS} {P : Addr} (hc : allLocal C = true) (D : DOk u n C d) (I : Inv C d σ h cs) (hP : P ∈ d.W) (hbP : d.hb.get? P = none) (k : ∀ b o, b ≠ P → h.get? b = some o → h'.get? b = some o) (hP' : h'.get? P ≠ none) :
    DOk u n C { d with he := hideAll h' (wr C d cs) } ∧ Inv C { d with he := hideAll h' (wr C d cs) } σ h' cs := by
  have nP : ∀ a ∈ wr C d cs, a ≠ P := fun a m q => D.alive P hP (q ▸ I.fresh a m)
  have nW : ∀ a ∈ wr C d cs, a ∉ d.W := fun a m q => D.alive a q (I.fresh a m)
  have up : Le (hideAll h (d.W ++ wr C d cs)) (hideAll h' (d.W ++ wr C d cs)) := Le.hides fun b o e nn => ⟨k b o (fun q => nn (q ▸ List.mem_append_left _ hP)) e, nn⟩
  refine ⟨⟨D.env, D.base, fun b o e => ?_, D.room, fun a m => ?_, D.above⟩, ⟨?_, I.lenS, I.lenC, fun i sv c e1 e2 => ?_, Le.hide _ _, fun a m => hideAll_none _ m, I.LC, I.CA, I.own, I.slf⟩⟩
  · have e1 := D.le b o e
    refine hideAll_get _ (k b o (fun q => by rw [q, hbP] at e; exact nn0 e) (I.keep b o e1)) fun m => ?_
    rw [I.fresh b m] at e1; exact nn0 e1
  · have e1 := D.alive a m
    cases q : d.he.get? a with
    | none => exact absurd q e1
    | some o =>
      have ha : h'.get? a ≠ none := by
        by_cases z : a = P
        · rw [z]; exact hP'
        · rw [k a o z (I.keep a o q)]; exact fun y => by exact nn1 y
      cases q2 : h'.get? a with
      | none => exact absurd q2 ha
      | some o2 =>
        rw [hideAll_get _ q2 (fun z => nW a z m)]
        exact fun y => by exact nn1 y
  · refine sEA I.ns fun m hn hs => ?_
    refine ⟨m, hn.at' fun o e => k _ o (nP _ L_wr) e, fun i p c e1 e2 => ?_⟩
    have z := hs i p c e1 e2
    have hp := List.all_eq_true.mp hc p (List.mem_of_getElem? e1)
    rw [beq_iff_eq] at hp
    unfold Stored at z ⊢
    rw [hp] at z ⊢
    exact z
  · have r := I.sr i sv c e1 e2
    have cm : c ∈ cs := List.mem_of_getElem? e2
    cases r with
    | unset => exact .unset
    | val r => exact .val (r.mono up)
    | @own _ _ _ a p r =>
      refine sEA p fun o e z => ?_; try clear p
      have ha : a ∈ wr C d cs := List.mem_cons_of_mem _ (List.mem_append_right _ (List.mem_flatMap.mpr ⟨_, cm, List.mem_singleton.mpr rfl⟩))
      exact .own ⟨o, k _ _ (nP _ ha) e, z⟩ (r.mono up)
    | @self _ x dx _ _ _ a b r =>
      have ha : x ∈ wr C d cs := List.mem_cons_of_mem _ (List.mem_append_right _ (List.mem_flatMap.mpr ⟨_, cm, List.mem_cons_self⟩))
      have hb : dx ∈ wr C d cs := List.mem_cons_of_mem _ (List.mem_append_right _ (List.mem_flatMap.mpr ⟨_, cm, List.mem_cons_of_mem _ (List.mem_singleton.mpr rfl)⟩))
      exact .self (k _ _ (nP _ ha) a) (k _ _ (nP _ hb) b) (r.mono up)
end
noncomputable def nm_fw : Nm := ⟨[("w", .local), ("firsts", .local), ("prefix", .local)], ["len"]⟩
noncomputable def gen_fw (w : World) : PySem.Expr := .GeneratorExp (xe_gx w).e [⟨.Name "tup" ⟨136, 30, 136, 33⟩, .Name "w" ⟨136, 37, 136, 38⟩, [], 0⟩] sc_gx ⟨136, 13, 136, 39⟩
noncomputable def x2_fw (w : World) : X1 (u0 w) 1 nm_fw := X1.assign 2 "prefix" .local (by rfl) (by decide) (XE.str "at tab size" 0 ⟨137, 13, 137, 26⟩) ⟨137, 4, 137, 10⟩ ⟨137, 4, 137, 26⟩ (fun _ => rfl)
noncomputable def x3_fw (w : World) : X1 (u0 w) 1 nm_fw := X1.ite (XT.cmp .Gt (XE.callB "len" (.builtin "len") lenC [⟨(XE.loc 0 ⟨138, 11, 138, 12⟩ "w" .local (by rfl)), rfl⟩] ⟨138, 7, 138, 10⟩ ⟨138, 7, 138, 13⟩ (by rfl) Keepable.bi (by decide +kernel) (by rfl)) (XE.int 1 0 ⟨138, 16, 138, 17⟩) ⟨138, 7, 138, 17⟩ (by rfl))
    (XS.cons (X1.assign 2 "prefix" .local (by rfl) (by decide) (XE.bin .Add (XE.loc 2 ⟨139, 17, 139, 23⟩ "prefix" .local (by rfl)) (XE.str "s" 0 ⟨139, 26, 139, 29⟩) ⟨139, 17, 139, 29⟩) ⟨139, 8, 139, 14⟩ ⟨139, 8, 139, 29⟩ (fun _ => rfl)) XS.nil) XS.nil ⟨138, 4, 139, 29⟩
noncomputable def xe_pre (w : World) : XE (u0 w) 1 nm_fw := XE.bin .Add (XE.loc 2 ⟨140, 11, 140, 17⟩ "prefix" .local (by rfl)) (XE.str " " 0 ⟨140, 20, 140, 23⟩) ⟨140, 11, 140, 23⟩
noncomputable def es_fw (w : World) : List (XA (u0 w) 1 nm_fw) := [⟨XE.loc 1 ⟨140, 36, 140, 42⟩ "firsts" .local (by rfl), rfl⟩]
noncomputable def ss_fw (w : World) : List Stmt := .Assign [.Name "firsts" ⟨136, 4, 136, 10⟩] (gen_fw w) ⟨136, 4, 136, 39⟩ :: (x2_fw w).st :: (x3_fw w).st :: [.Return (some (.BinOp (xe_pre w).e .Add (.Call (.Attribute (.Constant (.str ", ") 0 ⟨140, 26, 140, 30⟩) "join" ⟨140, 26, 140, 35⟩) (exprs (es_fw w)) [] ⟨140, 26, 140, 43⟩) ⟨140, 11, 140, 43⟩)) ⟨140, 4, 140, 43⟩]
theorem d_fw (w : World) : DefOK (u0 w) 192 nm_fw (ss_fw w) := ⟨by kernel_rfl, by kernel_rfl, by kernel_rfl, by kernel_rfl, by kernel_rfl, by kernel_rfl, by kernel_rfl, by kernel_rfl, by kernel_rfl, by kernel_rfl⟩
theorem e_fw (w : World) : ∀ vs : List Value, vs.length = 1 → bindArgs (fdOf (u0 w).K 192) ⟨vs, []⟩ = pure ((nm_fw.slots.map (·.1)).zip vs) := fun vs e => by
  refine len1 (P := fun l => bindArgs _ ⟨l, []⟩ = pure (List.zip _ l)) (fun a0 => ?_) vs e
  kernel_rfl
theorem code_fw (w : World) : (fdOf (u0 w).K 192).code = .ref 191 := by kernel_rfl
noncomputable abbrev witL (it : Nat → V × V) (ks : List Nat) : List V := ks.map fun k => V.tup [.int ((k + 1 : Nat) : Int), (it k).1, (it k).2]
noncomputable def fpOf (h : Heap) (L : Addr) : List Addr := (List.range h.objs.size).filter (· ≠ L)
theorem mem_fp {h : Heap} {L b : Nat} : b ∈ fpOf h L ↔ b < h.objs.size ∧ b ≠ L := by
  unfold fpOf
  rw [List.mem_filter, List.mem_range]; simp
noncomputable def gxP (items : Array Value) (i : Nat) (v : Value) : Prop := items[i]? = some v
noncomputable def gxF (ks : List Nat) (i : Nat) (y : Value) : Prop := ∃ k t, ks[i]? = some k ∧ y = .str (nmS k) t
theorem GenAt.move {prog : Program} {w : World} {A : Around} {a : Addr} {g : Nat} {C : Addr} {fp wr : List Addr} {pz : Nat → Bool} {n₀ : Nat} {F : Nat → Value → Prop} {j : Nat} {s s' : Shared} (st : GenAt prog w A a g C fp wr pz n₀ F j s) (hcs : cStatics ∈ fp)
    (hg : s'.gens = s.gens) (hk : ∀ b ∈ a :: C :: fp, ∀ o, s.heap.get? b = some o → s'.heap.get? b = some o) : GenAt prog w A a g C fp wr pz n₀ F j s' :=
  ⟨let ⟨o, nm, qn, ho, r⟩ := st.1; ⟨o, nm, qn, hk a (List.mem_cons_self ..) o ho, r⟩,
   (let ⟨mc, hns, hnn⟩ := st.2.1; ⟨mc, hns.at' fun o e => hk cStatics (List.mem_cons_of_mem _ (List.mem_cons_of_mem _ hcs)) o e, hnn⟩),
   let ⟨gs, hgs, hgo⟩ := st.2.2; ⟨gs, hg ▸ hgs, fun s'' hal => hgo s'' fun b hb o e => hal b hb o (hk b (List.mem_cons_of_mem _ hb) o e)⟩⟩
theorem passing_all (n : Nat) : passing (fun _ => true) n 0 = List.range n := by
  unfold passing
  rw [List.drop_zero]
  exact List.filter_eq_self.mpr fun _ _ => rfl
set_option maxHeartbeats 2000000 in
theorem gen_make {w : World} {s : Shared} {it : Nat → V × V} {ks : List Nat} {mg : Str → Option Value} {bm : Addr} {ob : Obj} {d : Dy} {σ : List SV} {cs : List CS} {n : Nat}
    (D : DOk (u0 w) (n + 1) nm_fw d) (I : Inv nm_fw d σ s.heap cs) (hσ : σ[0]? = some (.val (.list (witL it ks)))) (hcode : d.env.code = .ref 191)
    (cd : CodeHd d.hb 191 187) (hP : s.heap.get? 187 = some (tabObj #[])) (hbP : d.hb.get? 187 = none) (hPW : 187 ∈ d.W) (M : BMod d.hb mainGlobals mg bm ob) (hks : ∀ k ∈ ks, k < 6) {Q : Value → Shared → Prop}
    (h : ∀ (s5 : Shared) (a C I' : Addr) (n1 n2 : Nat), s5.os = s.os → (AllBare s.gens → AllBare s5.gens) → (∀ b o, b ≠ 187 → s.heap.get? b = some o → s5.heap.get? b = some o) → (∃ ps, s5.heap.get? 187 = some (tabObj ps)) → s.heap.get? I' = none → s.heap.get? C = none →
      (∃ H4 : Heap, cStatics ∈ fpOf H4 d.env.locals ∧ I' ∈ fpOf H4 d.env.locals ∧ d.env.locals ≠ a ∧ d.env.locals ≠ C ∧ (∀ b ∈ C :: fpOf H4 d.env.locals, b < a) ∧
        WalksS (u0 w).prog (u0 w).w d.A.in4 a (a :: C :: fpOf H4 d.env.locals) (C :: [I']) (GenOnlyQ n1) (passing (fun _ => true) ks.length 0).length (fun j y => ∃ i, (passing (fun _ => true) ks.length 0)[j]? = some i ∧ gxF ks i y) (GenAt (u0 w).prog (u0 w).w d.A.in4 a n1 C (fpOf H4 d.env.locals) [I'] (fun _ => true) ks.length (gxF ks)) ∧
        GenAt (u0 w).prog (u0 w).w d.A.in4 a n1 C (fpOf H4 d.env.locals) [I'] (fun _ => true) ks.length (gxF ks) 0 s5) → Q (.ref a) s5) :
    wpAny (model (u0 w).prog (u0 w).w) d.A (eval (gen_fw w) d.env) Q NoE s := by
  have hL : d.env.locals ∈ wr nm_fw d cs := L_wr
  have hroom := D.room
  unfold gen_fw
  refine wpAny_GeneratorExp_make (cl := []) rfl (by rfl) (by decide) rfl rfl hroom.dep ?_ (fun x => rfl)
  refine ex ((XE.loc (u := u0 w) (n := n + 1) (C := nm_fw) 0 ⟨136, 37, 136, 38⟩ "w" .local (by rfl)).snd σ _ false (loc_den hσ) d s cs D I) fun xv s1 q => ?_
  refine sA q fun z3 r => ?_; try clear q; refine sEEA z3 fun h1 tk1 z4 k1 => ?_; try clear z3; (first | subst z4 | cases (z4))
  have I1 := I.keeps (h' := h1) k1
  refine R.listC r fun us l eqx hl hr => ?_
  clear r; cases (eqx)
  have hl1 : h1.IsList l us.toArray := IsList.of_hide hl
  refine wpAny_pyIter_list hl1 ?_
  have hLl : h1.get? d.env.locals ≠ none := I1.alive D _ (List.mem_append_right _ hL)
  have hLlt : (d.env.locals : Nat) < (h1.objs.size : Nat) := by
    cases q : h1.get? d.env.locals with
    | none => exact absurd q hLl
    | some o => exact Heap.lt_size q
  refine sEAAE hl fun ol hol hlc nl hld => ?_; try clear hl
  refine sA (hide_get hol) fun hol1 hlW => ?_
  have hlL : l ≠ d.env.locals := fun q => hlW (List.mem_append_right _ (q ▸ hL))
  have hlP : l ≠ 187 := fun q => hlW (List.mem_append_left _ (q ▸ hPW))
  have hllt : (l : Nat) < (h1.objs.size : Nat) := Heap.lt_size hol1
  have hlen : us.toArray.size = ks.length := by
    have := hr.length
    rw [List.length_map] at this
    rw [List.size_toArray]; exact this.symm
  have le0 : Le d.hb s.heap := D.le.trans I.keep
  have le1 : Le d.hb h1 := le0.trans k1
  let h2 : Heap := h1.push { cls := .type "list_iterator", data := .fields #[.ref l, .int 0 0] }
  have k2 : Le h1 h2 := Le.push _ _
  have s2 : h2.objs.size = h1.objs.size + 1 := Heap.size_push _ _
  have hI2 : h2.get? h1.objs.size = some { cls := .type "list_iterator", data := .fields #[.ref l, .int 0 0] } := Heap.get?_push_size _ rfl
  have lim2 : h2.NoLimit := D.base.lim.keeps (le1.trans k2)
  have cd2 : CodeHd h2 191 187 := cd.keeps (le1.trans k2)
  have hP2 : h2.get? 187 = some (tabObj #[]) := k2 _ _ (k1 _ _ hP)
  have hPlt : 187 < h1.objs.size := Heap.lt_size (k1 _ _ hP)
  have M2 : BMod h2 mainGlobals mg bm ob := M.keeps (le1.trans k2)
  refine ⟨lim2, wpAny_genexprCodeX (c := 191) (P := 187) (ps := #[]) hcode (cd2.code hP2 trivial) (cd2.tab hP2) rfl fun c' h3 tk3 hx3 hge hlt hcode3 hrec3 htab3 _ => ?_⟩
  have hge : h2.objs.size ≤ c' := hge
  have M3 : BMod h3 mainGlobals mg bm ob := M2.extBut (cd2.tab hP2) hx3
  rw [D.env.globals]
  refine wpAny_builtinsFor M3.ns M3.name M3.ne M3.obj M3.cls M3.dict M3.data fun h' hn' hs' => ?_
  have hs3 : h'.objs.size = h3.objs.size + 1 := by rw [hs'.1, Heap.size_push]
  have k4 : Le h3 h' := fun b o e => hs'.extBut b o (Nat.ne_of_lt (Heap.lt_size e)) (Heap.get?_push_of_some _ e)
  have lt3 : h1.objs.size + 1 < h3.objs.size := by omega
  have k13 : ∀ b o, b ≠ 187 → h1.get? b = some o → h3.get? b = some o := fun b o nb e => hx3 b o nb (k2 b o e)
  have hfresh : ∀ b, h1.objs.size ≤ b → s.heap.get? b = none := fun b hb => by
    cases q : s.heap.get? b with
    | none => rfl
    | some o => exact absurd (Heap.lt_size (k1 b o q)) (Nat.not_lt.mpr hb)
  have hbne : ∀ b o, d.hb.get? b = some o → b ≠ 187 ∧ b ≠ d.env.locals ∧ b < h1.objs.size := fun b o e => by
    refine ⟨fun q => ?_, fun q => ?_, Heap.lt_size (le1 b o e)⟩
    · rw [q, hbP] at e; exact nn0 e
    · have := D.le b o e
      rw [q, I.fresh _ hL] at this; exact nn0 this
  have hcst : ∃ o, d.hb.get? cStatics = some o := by refine sEA D.base.lim fun _ z5 _ => ?_; refine sEEEA z5 fun o _ _ ho _ => ?_; try clear z5; exact ⟨o, ho⟩
  refine sE hcst fun ocs hcs => ?_; try clear hcst
  refine sAA (hbne _ _ hcs) fun c1 c2 c3 => ?_
  have hcf : cStatics ∈ fpOf h3 d.env.locals := mem_fp.mpr ⟨Nat.lt_trans c3 (by omega), c2⟩
  have hIf : h1.objs.size ∈ fpOf h3 d.env.locals := mem_fp.mpr ⟨by omega, Nat.ne_of_gt hLlt⟩
  have hlf : l ∈ fpOf h3 d.env.locals := mem_fp.mpr ⟨Nat.lt_trans hllt (by omega), hlL⟩
  have hh : d.A.handled = none := hroom.handled
  have hd1 : d.A.depth + 1 < recursionLimit := by have := hroom.depth; omega
  have hu1 : d.A.units + 208 < cLine := by have := hroom.units; omega
  have WL : ∀ A' : Around, A'.handled = none → Walks (u0 w).prog (u0 w).w A' h1.objs.size [h1.objs.size, l] [h1.objs.size] us.toArray.size (gxP us.toArray) (fun i h => h.IsListIter h1.objs.size l i ∧ h.IsList l us.toArray) := fun A' hA => Walks.list hA _ _ (Nat.ne_of_lt hllt) us.toArray
  have W0 : ∀ A' : Around, A'.handled = none → Walks (u0 w).prog (u0 w).w A' h1.objs.size (fpOf h3 d.env.locals) [h1.objs.size] ks.length (gxP us.toArray) (fun i h => h.IsListIter h1.objs.size l i ∧ h.IsList l us.toArray) := fun A' hA => hlen ▸ (WL A' hA).mono_fp fun b hb => by
    rcases List.mem_cons.mp hb with rfl | hb
    · exact hIf
    · cases List.mem_singleton.mp hb; exact hlf
  let h5 : Heap := h'.push { cls := .type "generator", data := .fields #[.int s.gens.size 0, .str "<genexpr>" (tk3 + 1), .str (d.env.qual ++ "<genexpr>") (tk3 + 1 + 1)] }
  have k5 : Le h' h5 := Le.push _ _
  have k35 : Le h3 h5 := k4.trans k5
  have s5z : h5.objs.size = h3.objs.size + 2 := by show (h'.push _).objs.size = _; rw [Heap.size_push, hs3]
  have k15 : ∀ b o, b ≠ 187 → h1.get? b = some o → h5.get? b = some o := fun b o nb e => k35 b o (k13 b o nb e)
  have lim5 : h5.NoLimit := D.base.lim.keeps fun b o e => k15 b o (hbne b o e).1 (le1 b o e)
  refine h _ h'.objs.size h3.objs.size h1.objs.size s.gens.size 0 rfl (fun G => G.push rfl) (fun b o nb e => k15 b o nb (k1 b o e)) ⟨_, k35 _ _ htab3.2⟩ (hfresh _ (Nat.le_refl _)) (hfresh _ (by omega)) ⟨h3, hcf, hIf, Nat.ne_of_lt (Nat.lt_trans hLlt (by omega)), Nat.ne_of_lt (Nat.lt_trans hLlt (by omega)), ?_, ?_, ?_⟩
  · intro b hb
    show (b : Nat) < (h'.objs.size : Nat)
    rcases List.mem_cons.mp hb with rfl | hb
    · show (h3.objs.size : Nat) < (h'.objs.size : Nat); omega
    · have q : (b : Nat) < (h3.objs.size : Nat) := (mem_fp.mp hb).1
      exact Nat.lt_of_lt_of_le q (by omega)
  · exact WalksS.genexpQ (A := d.A.in4) hh _ _ _ _ _ _ _ _ (show (h'.objs.size : Nat) ≠ h3.objs.size by omega) (fun m => by have q : (h'.objs.size : Nat) < h3.objs.size := (mem_fp.mp m).1; omega) (fun b hb => by cases List.mem_singleton.mp hb; exact hIf) (by show d.A.depth < _; omega) hcf (Nat.ne_of_lt (Nat.lt_trans c3 (by omega))) (fun m => Nat.ne_of_lt c3 (List.mem_singleton.mp m))
  · have hst2 : (fun i (h : Heap) => h.IsListIter h1.objs.size l i ∧ h.IsList l us.toArray) 0 h2 := ⟨⟨_, hI2, rfl, rfl⟩, hl1.push _⟩
    have hst5 : (fun i (h : Heap) => h.IsListIter h1.objs.size l i ∧ h.IsList l us.toArray) 0 h5 := (WL d.A hh).frame 0 h2 h5 hst2 fun b hb o e => by
      rcases List.mem_cons.mp hb with rfl | hb
      · exact k35 _ _ (hx3 _ _ (Nat.ne_of_gt hPlt) e)
      · cases List.mem_singleton.mp hb
        exact k35 _ _ (hx3 _ _ hlP e)
    refine GenAt.freshD (A := d.A.in4) (cenv := genEnv sc_gx [] h3.objs.size (.ref c') builtinsNs d.env) (m := fun y => if y = ".0" then some (.ref h1.objs.size) else none) hh W0 _ _ rfl rfl rfl (fun m => by have := (mem_fp.mp m).1; exact Nat.lt_irrefl _ this) ?_ ⟨_, _, _, Heap.get?_push_size _ rfl, rfl, rfl, rfl⟩ (Array.getElem?_push_size ..) hst5 (hn'.push _) lim5
    refine ⟨fun A' E' i v s₂ m₂ hA hd hu hPv hns hv hk => ?_, fun A' E' i v s₂ m₂ hA hd hu hPv _ hns hv hk => ?_⟩
    · exact wpAny_pure ⟨rfl, s₂.heap, s₂.toks, rfl, fun _ _ e => e⟩
    · have hPv : us.toArray[i]? = some v := hPv
      rw [List.getElem?_toArray] at hPv
      refine sEA (hr.get' hPv) fun x hx hrx => ?_
      rw [List.getElem?_map] at hx
      cases hki : ks[i]? with
      | none => rw [hki] at hx; exact nn0 hx
      | some k =>
        rw [hki] at hx
        cases (hx)
        have up : ∀ b o, b ≠ 187 → b ≠ d.env.locals → h1.get? b = some o → s₂.heap.get? b = some o := fun b o n1 n2 e => by
          have bl := Heap.lt_size e
          exact hk b (mem_fp.mpr ⟨Nat.lt_trans bl (by omega), n2⟩) (fun m => Nat.ne_of_lt bl (List.mem_singleton.mp m)) o (k15 b o n1 e)
        refine wpAny_mono (gx_elt w (A' := A') (s := s₂) (env := genEnv sc_gx [] h3.objs.size (.ref c') builtinsNs d.env) (m := m₂) (v := v) (k := k) (a := (it k).1) (b := (it k).2) D.base rfl D.env.globals rfl ?_ ?_ hA hns hv ?_ ?_ (hks k (List.mem_of_getElem? hki)) ?_) (fun y s₃ q => ⟨?_, q.2⟩) fun _ _ f => f.elim
        · have : d.A.in4.depth = d.A.depth := rfl
          omega
        · have : d.A.in4.units = d.A.units + 4 := rfl
          omega
        · intro b o e
          refine sAA (hbne b o e) fun b1 b2 b3 => ?_
          refine ⟨up b o b1 b2 (le1 b o e), ?_⟩
          exact Nat.ne_of_lt (Nat.lt_trans b3 (show (h1.objs.size : Nat) < h3.objs.size by omega))
        · exact Nat.le_trans D.above (Nat.le_of_lt (Nat.lt_trans hLlt (show (h1.objs.size : Nat) < h3.objs.size by omega)))
        · refine hrx.mono fun b o e => ?_
          refine sA (hide_get e) fun e1 e2 => ?_
          have n1 : b ≠ 187 := fun q => e2 (List.mem_append_left _ (q ▸ hPW))
          have n2 : b ≠ d.env.locals := fun q => e2 (List.mem_append_right _ (q ▸ hL))
          refine hideAll_get _ (up b o n1 n2 e1) fun m => ?_
          exact Nat.ne_of_lt (Nat.lt_trans (Heap.lt_size e1) (show (h1.objs.size : Nat) < h3.objs.size by omega)) (List.mem_singleton.mp m)
        · refine sE q.1 fun t ht => ?_
          exact ⟨k, t, hki, ht⟩
noncomputable def preN (n : Nat) : Str := if n > 1 then "at tab sizes" else "at tab size"
noncomputable def preN2 (n : Nat) : Str := if n > 1 then "at tab sizes " else "at tab size "
theorem x3_den (w : World) {xs : List V} {a : SV} (h : xs.length ≤ 1000) : (x3_fw w).den [.val (.list xs), a, .val (.str "at tab size")] = some (.next, [.val (.list xs), a, .val (.str (preN xs.length))]) := by
  unfold x3_fw
  by_cases q : xs.length > 1
  · have e : preN xs.length = "at tab sizes" := if_pos q
    rw [e]
    refine ite_den (c := true) (cmpT_den (x := .int xs.length) (y := .int 1) (f := false) (g := false) (callB_den (denL_cons0 rfl rfl) (len_den (lenOk_le h))) rfl (congrArg some (decide_eq_true (by omega)))) ?_
    kernel_rfl
  · have e : preN xs.length = "at tab size" := if_neg q
    rw [e]
    exact ite_den (c := false) (cmpT_den (x := .int xs.length) (y := .int 1) (f := false) (g := false) (callB_den (denL_cons0 rfl rfl) (len_den (lenOk_le h))) rfl (congrArg some (decide_eq_false (by omega)))) nil_den
theorem pre_den (w : World) {n : Nat} {a b : SV} : (xe_pre w).den [a, b, .val (.str (preN n))] = some (.str (preN2 n), false) := by
  unfold preN preN2
  split <;> kernel_rfl
set_option maxHeartbeats 2000000 in
theorem fw_call {w : World} {A : Around} {s : Shared} {hb : Heap} {W : List Addr} {v0 : Value} {it : Nat → V × V} {ks : List Nat} {mg : Str → Option Value} {bm : Addr} {ob : Obj} (B : Base (u0 w) hb) (rm : Room 2 A) (le : LeB hb s.heap) (al : ∀ a ∈ W, s.heap.get? a ≠ none) (hPW : 187 ∈ W) (hbP : hb.get? 187 = none)
    (cd : CodeHd hb 191 187) (hP : s.heap.get? 187 = some (tabObj #[])) (M : BMod hb mainGlobals mg bm ob) (hks : ∀ k ∈ ks, k < 6) (hlen : ks.length ≤ 100) (hok : JoinOk ", " (ks.map nmS) = true) (hok2 : lenOk ((preN2 ks.length).length + (Txt.join ", " (ks.map nmS)).length) = true) (hr : R (hideAll s.heap W) (.list (witL it ks)) v0) {Q : Value → Shared → Prop}
    (h : ∀ s' r, s'.os = s.os → (AllBare s.gens → AllBare s'.gens) → (∀ b o, b ≠ 187 → s.heap.get? b = some o → s'.heap.get? b = some o) → (∃ ps, s'.heap.get? 187 = some (tabObj ps)) → (∀ g, R g (.str (preN2 ks.length ++ Txt.join ", " (ks.map nmS))) r) → Q r s') :
    wpAny (model (u0 w).prog (u0 w).w) A (call (.ref 192) [v0]) Q NoE s := by
  refine call_frame (n := 1) (args := [.list (witL it ks)]) (d_fw w) (Nat.le_of_ble_eq_true rfl) (e_fw w) B rm le al (.cons hr .nil) fun h₀ tk env hL hfr hk hg hbi hcd hkind D I hlt leh => ?_
  have hcode : env.code = .ref 191 := hcd.trans (code_fw w)
  have hLs : s.heap.get? env.locals = none := by rw [hL]; exact fresh_size _
  have ew : wr nm_fw { hb := hb, he := s.heap, A := A.deeper env, W := W, env := env } (csOf nm_fw [v0]) = [env.locals] := by
    unfold wr
    rw [adrs_csOf]; rfl
  refine wpAny_execs_cons (wpAny_Assign_Name (gen_make (n := 0) D I rfl hcode cd (leh _ _ hP) hbP hPW M hks fun s5 a C I' n1 n2 hos hbare k5 hP5 hI' hC' hgen => ?_) rfl)
  obtain ⟨H4, hcs, hIf, hLa, hLC, hfp, W5, st5⟩ := hgen
  have z6 := hP5; clear hP5; refine sE z6 fun ps hP5 => ?_; clear z6
  refine sA (Inv.shift (h' := s5.heap) rfl D I hPW hbP k5 (by rw [hP5]; exact fun z => by cases z)) fun D5 I5 => ?_
  refine ex (store_val D5 I5 (i := 1) (x := "firsts") (k := .local) (av := .raw (.ref a)) rfl (by decide) (.raw _)) fun _ s6 z => ?_
  refine sAEA z fun sm6 cs6 I6 _ => ?_; try clear z
  refine wpAny_execs_cons (ex ((x2_fw w).snd _ .next _ rfl _ _ cs6 D5 I6) fun f s7 q => ?_)
  refine sAEA q fun sm7 cs7 I7 z7 => ?_; try clear q; (first | subst z7 | cases (z7))
  have e3 := x3_den w (xs := ks.map fun k => V.tup [.int ((k + 1 : Nat) : Int), (it k).1, (it k).2]) (a := .val (.raw (.ref a))) (by rw [List.length_map]; omega)
  rw [List.length_map] at e3
  refine wpAny_execs_cons (ex ((x3_fw w).snd _ .next _ e3 _ _ cs7 D5 I7) fun f s8 q => ?_)
  refine sAEA q fun sm8 cs8 I8 z8 => ?_; try clear q; (first | subst z8 | cases (z8))
  refine wpAny_execs_cons (wpAny_Return_some (wpAny_BinOp ?_))
  refine ex ((xe_pre w).snd _ _ _ (pre_den w) _ _ cs8 D5 I8) fun x1 s9 q => ?_
  refine sA q fun k9 r9 => ?_; try clear q
  have I9 := I8.keeps k9.le
  refine meth_gen (o := .Constant (.str ", ") 0 ⟨140, 26, 140, 30⟩) (es := es_fw w) rfl (Nat.le_of_ble_eq_true rfl) rfl (ex ((XE.str (u := u0 w) (n := 1) (C := nm_fw) ", " 0 ⟨140, 26, 140, 30⟩).snd _ _ _ rfl _ _ cs8 D5 I9) fun ov s10 q => fun pl => ?_)
  refine sA q fun k10 r10 => ?_; try clear q
  have I10 := I9.keeps k10.le
  refine R.strC r10 fun t eqx => ?_
  clear r10; cases (eqx)
  refine getMethod_builtin (T := "str") (id := "str.join") (typeIs_str _ _ t) PySem.F.plainAttrs_str PySem.F.slot_str_join PySem.F.type_str_join (fun a e => Value.noConfusion e) ?_
  refine callWith_ok (es := es_fw w) (σ := [.val (.list (witL it ks)), .val (.raw (.ref a)), .val (.str (preN ks.length))]) (vs := [.raw (.ref a)]) (b := false) rfl Keepable.bi D5 I10 fun us s11 k11 I11 rs => ?_
  refine sEE (sm6.trans (sm7.trans (sm8.trans (k9.sm.trans (k10.sm.trans k11.sm))))) fun h11 tk11 z9 => ?_; (first | subst z9 | cases (z9))
  refine Rs.consC rs fun _ _ eqx ra rn => ?_
  clear rs; cases (eqx)
  (refine Rs.nilC rn fun z67 => ?_; clear rn; cases (z67))
  (refine R.rawC ra fun z68 => ?_; clear ra; cases (z68))
  have keep : ∀ b o, b ≠ env.locals → s5.heap.get? b = some o → h11.get? b = some o := fun b o nb e => I11.keep b o (hideAll_get _ e (fun m => by rw [ew] at m; exact nb (List.mem_singleton.mp m)))
  have st11 : GenAt (u0 w).prog (u0 w).w (A.deeper env).in4 a n1 C (fpOf H4 env.locals) [I'] (fun _ => true) ks.length (gxF ks) 0 { heap := h11, gens := s5.gens, drawn := s5.drawn, toks := tk11, os := s5.os } := GenAt.move st5 hcs rfl fun b hb o e => keep b o (fun q => by
    rcases List.mem_cons.mp hb with hb | hb
    · exact hLa (q.symm.trans hb)
    · rcases List.mem_cons.mp hb with hb | hb
      · exact hLC (q.symm.trans hb)
      · exact (mem_fp.mp hb).2 q) e
  have ha11 : a < h11.objs.size := by refine sEEEA st11.1 fun o _ _ ho _ => ?_; exact Heap.lt_size ho
  have hfp11 : ∀ b ∈ a :: C :: fpOf H4 env.locals, b < h11.objs.size := fun b hb => by
    rcases List.mem_cons.mp hb with rfl | hb
    · exact ha11
    · exact Nat.lt_trans (hfp b hb) ha11
  refine SC.joinGen (A := A.deeper env) W5.in4_2 (fun i s' st => st.1.typeIs) st11 hfp11 List.mem_cons_self (fun i v hv => ?_) (fun s12 l hm hacc => ?_) ?_
  · refine sEAEEA hv fun j _ k t _ e => ?_; try clear hv
    exact ⟨_, t, e⟩
  · have hl : l.map (·.1) = ks.map nmS := by
      apply List.ext_getElem?
      intro j
      have hsz : l.length = ks.length := by
        have := hacc.1
        rw [passing_all, List.length_range] at this
        simpa [strValues] using this
      by_cases hj : j < ks.length
      · have hj' : j < l.length := hsz ▸ hj
        refine sEAEEA (hacc.2 j (.str l[j].1 l[j].2) (by simp [strValues, List.getElem?_eq_getElem hj'])) fun i hi k t hk2 he => ?_
        rw [passing_all, List.getElem?_range hj] at hi
        cases (hi)
        injection he with h1 _
        rw [List.getElem?_map, List.getElem?_map, List.getElem?_eq_getElem hj', hk2]
        simp [h1]
      · rw [List.getElem?_eq_none (by rw [List.length_map]; omega), List.getElem?_eq_none (by rw [List.length_map]; omega)]
    rw [hl]
    refine ⟨hok, fun t' k => ?_⟩
    have keep12 : ∀ b o, b ≠ env.locals → b ≠ C → b ≠ I' → s5.heap.get? b = some o → s12.heap.get? b = some o := fun b o n1 n2 n3 e => hm.heap b o (fun m => by
      rcases List.mem_cons.mp m with m | m
      · exact n2 m
      · exact n3 (List.mem_singleton.mp m)) (keep b o n1 e)
    have r9' : R (hideAll s12.heap []) (.str (preN2 ks.length)) x1 := r9.of_flat rfl
    refine ex (binop_ok (W := []) (s := { s12 with toks := k }) (op := .Add) (a := .str (preN2 ks.length)) (b := .str (Txt.join ", " (ks.map nmS))) (c := .str (preN2 ks.length ++ Txt.join ", " (ks.map nmS))) ?_ r9' (.str _ t') (fun q m => by exact nn4 m)) fun z s13 qz => ?_
    · show (if lenOk ((preN2 ks.length).length + (Txt.join ", " (ks.map nmS)).length) then some (V.str (preN2 ks.length ++ Txt.join ", " (ks.map nmS))) else none) = _
      rw [hok2]; rfl
    refine sA qz fun kz rz => ?_; try clear qz
    refine sEEA kz fun h13 tk13 z10 le13 => ?_; try clear kz; (first | subst z10 | cases (z10))
    have keep13 : ∀ b o, b ≠ env.locals → b ≠ C → b ≠ I' → s5.heap.get? b = some o → h13.get? b = some o := fun b o n1 n2 n3 e => le13 b o (keep12 b o n1 n2 n3 e)
    refine h _ z (hm.os.trans hos) (fun G => (hbare G).moved hm.gens) (fun b o nb e => ?_) ⟨ps, ?_⟩ (fun g => rz.of_flat rfl)
    · have e0 := leh b o e
      exact keep13 b o (fun q => by rw [q, hLs] at e; exact nn0 e) (fun q => by rw [q, hC'] at e0; exact nn0 e0) (fun q => by rw [q, hI'] at e0; exact nn0 e0) (k5 b o nb e0)
    · have e0 := leh _ _ hP
      exact keep13 _ _ (fun q => by rw [← q, hP] at hLs; exact nn1 hLs) (fun q => by rw [← q, e0] at hC'; exact nn1 hC') (fun q => by rw [← q, e0] at hI'; exact nn1 hI') hP5
  · rw [passing_all, List.length_range]
    exact Nat.le_trans hlen (Nat.le_of_ble_eq_true rfl)
section
variable {M : Model} {A : Around} {E : Value → Shared → Prop} {s : Shared} {w : World} {env : Env}
noncomputable def exF (t : Addr) (tb : Value) : Array Value := #[.ref t, tb, .none, .none, .bool false, .none]
theorem nn_bm : nnBm.contains (.type "BaseException") = true := by decide
theorem nn_raiseStmt {x : Sem Value} {Q : Flow → Shared → Prop} (hh : A.handled = none)
    (h : wpAny M A x (fun v s₁ => ∃ e t dx m, v = .ref e ∧ s₁.heap.get? 116 = some (nnObj w) ∧ ExcAt s₁.heap e 116 (exF t .none) (some dx) m ∧ E (.ref e) s₁) E s) :
    wpAny M A (raiseStmt env (some x) none) Q E s := by
  have hcB : (Value.ref 116 :: nnBm).contains (.type "BaseException") = true := by rw [List.contains_cons, nn_bm, Bool.or_true]
  unfold raiseStmt
  refine wpAny_bind (wpAny_mono h (fun v s₁ h₁ => ?_) fun _ _ x => x)
  obtain ⟨e, t, dx, m, rfl, hC, ⟨he, _⟩, hE⟩ := h₁
  unfold exF at he
  unfold nnObj at hC
  obtain ⟨hp, g, d, tk, os⟩ := s₁
  repeat (first | with_reducible refine wpAny_loadPart_at he ?_ | with_reducible refine wpAny_loadPart_at hC ?_ | (with_reducible refine wpAny_isSubtype_exc hC ?_; rw [hcB]) | wp_step)
  exact wpAny_raiseNew_none hh hE
structure UpTo (fr : List Addr) (e : Addr) (h h' : Heap) : Prop where
  same : ∀ b o, b ∉ fr → b ≠ e → h.get? b = some o → h'.get? b = some o
  slots : ∀ b o, b ≠ e → h.get? b = some o → ∃ sl, h'.get? b = some { o with slots := sl }
theorem UpTo.ns {fr : List Addr} {e : Addr} {h h' : Heap} (x : UpTo fr e h h') {a : Addr} {m : Str → Option Value} (n : h.Ns a m) (hne : a ≠ e) : h'.Ns a m := by
  refine sEEEAA n fun o es ep ho hd r => ?_; try clear n
  refine sE (x.slots a o hne ho) fun sl q => ?_
  exact ⟨_, es, ep, q, hd, r⟩
noncomputable def TbAt (h : Heap) (T : Addr) : Prop := ∃ o ts, h.get? T = some o ∧ o.cls = .type "traceback" ∧ o.data = .fields ts ∧ 3 < ts.size
theorem note_new {base : Heap} {outer : List Env} {L e t dx : Addr} {m : Str → Option Value} {Q : Unit → Shared → Prop} (hfr : A.frames = some (env :: outer)) (hl : s.heap.FunFrames base (env :: outer)) (hf : env.frame = some L) (he : ExcAt s.heap e 116 (exF t .none) (some dx) m) (hdx : dx ∉ (env :: outer).filterMap (·.frame))
    (h : ∀ h' T, UpTo ((env :: outer).filterMap (·.frame)) e s.heap h' → ExcAt h' e 116 (exF t (.ref T)) (some dx) m → TbAt h' T → s.heap.get? T = none → Q () { s with heap := h' }) : wpAny M A (noteFrame (.ref e) env) Q E s := by
  refine sAA he fun he1 he2 he3 => ?_; try clear he
  have hene : e ∉ (env :: outer).filterMap (·.frame) := fun hm => by
    refine sAEA (hl.mem hm) fun _ o ho hnf => ?_
    rw [he1] at ho; cases (ho); exact hnf _ rfl
  unfold noteFrame
  simp only [hf]
  refine wpAny_bind (wpAny_field (x := .none) he1 rfl rfl ?_)
  rw [if_neg (by decide)]
  refine wpAny_bind (wpAny_frameOf_fun hfr hl hf fun h₁ hs₁ => ?_)
  refine wpAny_bind (wpAny_entryPlaceOf fun pl hpl => ?_)
  unfold EntryCells.newEntry newFields
  refine wpAny_bind (wpAny_newObj_type ?_ (hpl.sizeOk5 _ _ _ _ _))
  have he₁ := (hs₁.2.1 e hene).trans he1
  have he₂ := Heap.get?_push_of_some (h := h₁) { cls := .type "traceback", dict := none, data := .fields ([Value.none, .ref L, .none, rawInt L, .none] ++ (if pl.isEmpty then List.replicate 6 Value.none else pl)).toArray } he₁
  refine wpAny_setField he₂ rfl (by show 1 < (6 : Nat); decide) ?_
  have hTe : h₁.objs.size ≠ e := Nat.ne_of_gt (Heap.lt_size he₁)
  have keep : ∀ b o, b ≠ e → h₁.get? b = some o → ((h₁.push { cls := .type "traceback", dict := none, data := .fields ([Value.none, .ref L, .none, rawInt L, .none] ++ (if pl.isEmpty then List.replicate 6 Value.none else pl)).toArray }).update e (Obj.mapFields (·.setIfInBounds 1 (Value.ref h₁.objs.size)))).get? b = some o := fun b o hbe hb => by
    rw [Heap.get?_update_other _ _ (Ne.symm hbe)]
    exact Heap.get?_push_of_some _ hb
  refine h _ h₁.objs.size ⟨fun b o nb ne q => keep b o ne ((hs₁.2.1 b nb).trans q), fun b o ne q => ?_⟩ ⟨?_, he2, ?_⟩ ⟨_, _, (Heap.get?_update_other _ _ (Ne.symm hTe)).trans (Heap.get?_push_size h₁ rfl), rfl, rfl, ?_⟩ ?_
  · refine sE (hs₁.2.2 b o q) fun sl q1 => ?_
    exact ⟨sl, keep b _ ne q1⟩
  · exact (Heap.get?_update_self _ he₂ rfl).trans rfl
  · exact he3.at fun o q => keep _ o he2 ((hs₁.2.1 dx hdx).trans q)
  · simp only [List.size_toArray, List.length_append, List.length_cons, List.length_nil]; omega
  · exact Heap.get?_none_of_le (by rw [hs₁.1]; exact Nat.le_refl _)
theorem flight {e t T dx : Addr} {m : Str → Option Value} {Q : Unit → Shared → Prop} (he : ExcAt s.heap e 116 (exF t (.ref T)) (some dx) m) (hT : TbAt s.heap T)
    (h : ∀ h', (∀ b o, b ≠ T → s.heap.get? b = some o → h'.get? b = some o) → ExcAt h' e 116 (exF t (.ref T)) (some dx) m → TbAt h' T → Q () { s with heap := h' }) : wpAny M A (setFlight (.ref e) none) Q E s := by
  refine sAA he fun he1 he2 he3 => ?_; try clear he
  refine sEEAAA hT fun o ts ho hc hd hsz => ?_; try clear hT
  have hTe : T ≠ e := fun q => by rw [q, he1] at ho; cases (ho); cases (hc)
  have hTd : T ≠ dx := fun q => by
    refine sEEEAA he3 fun o2 es ep ho2 hd2 _ => ?_; try clear he3
    rw [q, ho2] at ho; cases (ho); rw [hd2] at hd; cases (hd)
  refine wpAny_setFlight_none he1 rfl rfl ho hd hsz ?_
  have keep : ∀ b o, b ≠ T → s.heap.get? b = some o → (s.heap.update T (Obj.mapFields (·.setIfInBounds 3 .none))).get? b = some o := fun b o nb q => by
    rw [Heap.get?_update_other _ _ (Ne.symm nb)]; exact q
  refine h _ keep ⟨keep _ _ (Ne.symm hTe) he1, he2, he3.at fun o q => keep _ o (Ne.symm hTd) q⟩ ⟨_, _, Heap.get?_update_self _ ho (Obj.isFreed_of_fields (Obj.data_mapFields hd _)), by rw [Obj.cls_mapFields]; exact hc, Obj.data_mapFields hd _, by rw [Array.size_setIfInBounds]; exact hsz⟩
theorem nn_handle {prog : Program} {W : World} {e : Addr} {t : PySem.Expr} {n : Str} {b₀ : Stmt} {suite : List Stmt} {pos : Pos} {rest : List ExceptHandler} {Q : Flow → Shared → Prop}
    (h : wpAny (model prog W) (A.mark (some (.ref e))) (eval t env) (fun c s₁ => c = .ref 116 ∧ s₁.heap.get? 116 = some (nnObj w) ∧ (∃ oe, s₁.heap.get? e = some oe ∧ oe.cls = .ref 116) ∧
      wpAny (model prog W) (A.mark (some (.ref e))) (setFlight (.ref e) none) (fun _ s₂ =>
          wpAny (model prog W) (A.mark (some (.ref e))) (storeName env n (.ref e)) (fun _ s₃ =>
            wpAny (model prog W) (A.mark (some (.ref e))) (execs (b₀ :: suite) env)
              (fun f s₄ => wpAny (model prog W) A (do bindName env n .none; unbindBehindTheSuite env n pos) (fun _ s₅ => Q f s₅) E s₄) NoE s₃) NoE s₂) NoE s₁) NoE s) :
    wpAny (model prog W) A (handleBy (.ref e) env (.ExceptHandler (some t) (some n) (b₀ :: suite) pos :: rest)) Q E s := by
  refine wpAny_handleBy_cons (codeAny_handlers_test (ex h fun c s₁ h₁ => ?_)) (by intro q; cases (q))
  refine sAAA h₁ fun z11 hC z12 hk => ?_; try clear h₁; (first | subst z11 | cases (z11)); refine sEA z12 fun oe he hcls => ?_; try clear z12
  obtain ⟨hh, g, d, tk, os⟩ := s₁
  unfold nnObj at hC
  exact wpAny_excMatches_sub_self hC he hcls nn_bm (codeAny_handlers_suite_as (ex hk fun _ s₂ h₂ => ex h₂ fun _ s₃ h₃ => ex h₃ fun f s₄ h₄ => h₄))
theorem glob_at {hb : Heap} {x : Str} {v : Value} {p : Pos} {Q : Value → Shared → Prop} (B : Base (u0 w) hb) (le : Le hb s.heap) (hk : env.scope.kind = .function) (hx : env.kindOf x = some .globalImplicit) (hg : env.globals = mainGlobals) (e : (u0 w).G.lookup x = some v) (hd : (x == ("__debug__" : Str)) = false) (h : Q v s) :
    wpAny M A (eval (.Name x p) env) Q E s := by
  refine sEEAAA B.T fun mg mb T _ G _ => ?_
  refine Name_function_global hk hx (loadGlobal_global (mg := mg) ?_ (G x v e) h) hd
  rw [hg]; exact T.keeps le
end
section
variable {A : Around} {s : Shared} {w : World} {env : Env}
theorem nag_call {hb : Heap} {fa : Addr} {name at_ : Str} {p0 p1 p2 np p q : Pos} (hD : DefOK (u0 w) fa nm_get (ss_get at_ np p q)) (hbi : ∀ vs : List Value, vs.length = 1 → bindArgs (fdOf (u0 w).K fa) ⟨vs, []⟩ = pure ((nm_get.slots.map (·.1)).zip vs)) (hn : findIn (u0 w).K (.ref 116) at_ = some none)
    (hf : findIn (u0 w).K (.ref 116) name = some (some (.ref fa))) (ht : typeIn (u0 w).K (.ref fa) = some (.type "function")) (hkp : keepIn (u0 w).K (.ref fa) = true) (hline : (p1.endLine == p2.line) = true)
    {e dx : Addr} {vs : Array Value} {m m2 : Str → Option Value} {v : Value} (B : Base (u0 w) hb) (le : Le hb s.heap) (dep : A.depth < recursionLimit) (hk : env.scope.kind = .function) (hx : env.kindOf "nag" = some .local) (hns : s.heap.Ns env.locals m2) (hm2 : m2 "nag" = some (.ref e))
    (he : ExcAt s.heap e 116 vs (some dx) m) (hnm : m name = none) (hv : m at_ = some v) (hh : handedIn v = true) {Q : Value → Shared → Prop}
    (h : ∀ h' tk', Le s.heap h' → Q v { s with heap := h', toks := tk' }) : wpAny (model (u0 w).prog (u0 w).w) A (eval (.Call (.Attribute (.Name "nag" p0) name p1) [] [] p2) env) Q NoE s := by
  have X : (u0 w).K.In s.heap := B.X.keeps le
  refine meth_gen (es := ([] : List (XA (u0 w) 0 nm_get))) (o := .Name "nag" p0) rfl (Nat.le_of_ble_eq_true rfl) hline (name_at hk hx hns hm2 (by decide) fun pl => ?_)
  refine sEA he.inst fun o I hl => ?_
  refine exc_method (K := (u0 w).K) X I (nn_f2 w) (nn_f3 w) hf ht (by unfold shadowIn; dsimp only; rw [hl, hnm]; rfl) ?_
  refine callWith_of (P := fun g => (u0 w).K.In g) rfl (fun g X => Keepable.fn (u := u0 w) hkp g X) (evalArgs_nil3 ⟨X, ?_⟩)
  exact nn_getter hD hbi hn X (B.lim.keeps le) dep he hv hh h
noncomputable def nagE (name : Str) (p0 p1 p2 : Pos) : PySem.Expr := .Call (.Attribute (.Name "nag" p0) name p1) [] [] p2
noncomputable def nagL : PySem.Expr := .List [nagE "get_lineno" ⟨204, 16, 204, 19⟩ ⟨204, 16, 204, 30⟩ ⟨204, 16, 204, 32⟩, nagE "get_msg" ⟨204, 34, 204, 37⟩ ⟨204, 34, 204, 45⟩ ⟨204, 34, 204, 47⟩, nagE "get_line" ⟨204, 49, 204, 52⟩ ⟨204, 49, 204, 61⟩ ⟨204, 49, 204, 63⟩] ⟨204, 15, 204, 64⟩
theorem nag_list {hb : Heap} {e dx : Addr} {vs : Array Value} {m2 : Str → Option Value} {x1 x2 x3 : Value} (B : Base (u0 w) hb) (le : Le hb s.heap) (dep : A.depth < recursionLimit) (hk : env.scope.kind = .function) (hx : env.kindOf "nag" = some .local) (hns : s.heap.Ns env.locals m2) (hm2 : m2 "nag" = some (.ref e))
    (he : ExcAt s.heap e 116 vs (some dx) (m3 x1 x2 x3)) (q1 : handedIn x1 = true) (q2 : handedIn x2 = true) (q3 : handedIn x3 = true) {Q : Value → Shared → Prop}
    (h : ∀ h' tk' l, Le s.heap h' → h'.get? l = some { cls := .type "list", data := .seq #[x1, x2, x3] } → Q (.ref l) { s with heap := h', toks := tk' }) : wpAny (model (u0 w).prog (u0 w).w) A (eval nagL env) Q NoE s := by
  refine wpAny_List ?_
  refine wpAny_items_cons (nag_call (d_get1 w) (e_get1 w) (nn_f4 w) (by kernel_rfl) (by kernel_rfl) (by kernel_rfl) rfl B le dep hk hx hns hm2 he (by kernel_rfl) (by kernel_rfl) q1 fun h1 tk1 k1 => ?_) rfl
  have he1 : ExcAt h1 e 116 vs (some dx) (m3 x1 x2 x3) := ⟨k1 _ _ he.1, he.2.1, he.2.2.keeps k1⟩
  have hns1 := hns.keeps k1
  refine wpAny_items_cons (nag_call (d_get2 w) (e_get2 w) (nn_f5 w) (by kernel_rfl) (by kernel_rfl) (by kernel_rfl) rfl B (le.trans k1) dep hk hx hns1 hm2 he1 (by kernel_rfl) (by kernel_rfl) q2 fun h2 tk2 k2 => ?_) rfl
  have he2 : ExcAt h2 e 116 vs (some dx) (m3 x1 x2 x3) := ⟨k2 _ _ he1.1, he1.2.1, he1.2.2.keeps k2⟩
  have hns2 := hns1.keeps k2
  refine wpAny_items_cons (nag_call (d_get3 w) (e_get3 w) (nn_f6 w) (by kernel_rfl) (by kernel_rfl) (by kernel_rfl) rfl B ((le.trans k1).trans k2) dep hk hx hns2 hm2 he2 (by kernel_rfl) (by kernel_rfl) q3 fun h3 tk3 k3 => ?_) rfl
  refine spliced_nil ⟨Nat.le_of_ble_eq_true rfl, h _ _ _ (((k1.trans k2).trans k3).trans (Le.push _ _)) (Heap.get?_push_size _ rfl)⟩
end
noncomputable def x1_said (w : World) : X1 (u0 w) 2 nm_law_said := X1.assign 5 "same" .local (by rfl) (by decide) (XE.meth (XE.loc 0 ⟨199, 11, 199, 16⟩ "first" .local (by rfl)) 181 "equal" 157 ((c_Whitespace_equal w).lift (by decide)) [⟨(XE.loc 1 ⟨199, 23, 199, 29⟩ "second" .local (by rfl)), rfl⟩] ⟨199, 11, 199, 22⟩ ⟨199, 11, 199, 30⟩ (ws_ok w) (by kernel_rfl) (by kernel_rfl) (Keepable.fn (by kernel_rfl)) (fun _ => rfl) (Nat.le_of_ble_eq_true rfl) (by rfl)) ⟨199, 4, 199, 8⟩ ⟨199, 4, 199, 30⟩ (fun _ => rfl)
noncomputable def xt_said (w : World) : XT (u0 w) 2 nm_law_said := XT.cmp .Is (XE.loc 5 ⟨201, 11, 201, 15⟩ "same" .local (by rfl)) (XE.bool false 0 ⟨201, 19, 201, 24⟩) ⟨201, 11, 201, 24⟩ (by rfl)
noncomputable def es_said (w : World) : List (XA (u0 w) 2 nm_law_said) := [⟨XE.loc 2 ⟨202, 79, 202, 86⟩ "witness" .local (by rfl), rfl⟩]
noncomputable def a2_said (w : World) : PySem.Expr := .BinOp (.Constant (.str "indent not equal e.g. ") 0 ⟨202, 35, 202, 59⟩) .Add (.Call (.Name "format_witnesses" ⟨202, 62, 202, 78⟩) (exprs (es_said w)) [] ⟨202, 62, 202, 87⟩) ⟨202, 35, 202, 87⟩
noncomputable def call_said (w : World) : PySem.Expr := .Call (.Name "NannyNag" ⟨202, 18, 202, 26⟩) [.Name "number" ⟨202, 27, 202, 33⟩, a2_said w, .Name "line" ⟨202, 89, 202, 93⟩] [] ⟨202, 18, 202, 94⟩
noncomputable def hd_said : ExceptHandler := .ExceptHandler (some (.Name "NannyNag" ⟨203, 11, 203, 19⟩)) (some "nag") [.Return (some nagL) ⟨204, 8, 204, 64⟩] ⟨203, 4, 204, 64⟩
noncomputable def ret_said : Stmt := .Return (some (.IfExp (.Compare (.Name "same" ⟨205, 17, 205, 21⟩) [.Is] [.Constant (.bool true) 0 ⟨205, 25, 205, 29⟩] ⟨205, 17, 205, 29⟩) (.List [] ⟨205, 11, 205, 13⟩) (.List [.Name "same" ⟨205, 36, 205, 40⟩] ⟨205, 35, 205, 41⟩) ⟨205, 11, 205, 41⟩)) ⟨205, 4, 205, 41⟩
noncomputable def ss_said (w : World) : List Stmt := [(x1_said w).st, .Try [.If (xt_said w).e [.Raise (some (call_said w)) none ⟨202, 12, 202, 94⟩] [] ⟨201, 8, 202, 94⟩] [hd_said] [] [] ⟨200, 4, 204, 64⟩, ret_said]
theorem d_said (w : World) : DefOK (u0 w) 251 nm_law_said (ss_said w) := ⟨by kernel_rfl, by kernel_rfl, by kernel_rfl, by kernel_rfl, by kernel_rfl, by kernel_rfl, by kernel_rfl, by kernel_rfl, by kernel_rfl, by kernel_rfl⟩
noncomputable def itW (a b c d e f : Nat) (g : Int) (k : Nat) : V × V := (.int (lvI a b c (k + 1) g), .int (lvI d e f (k + 1) g))
noncomputable def sig5 (i1 i2 : V) (wt : V) (c3 : Int) (t : Str) : List SV := [.val i1, .val i2, .val wt, .val (.int c3), .val (.str t), .val (.bool false), .unset]
theorem said_raise {w : World} {s : Shared} {d : Dy} {cs : List CS} {i1 i2 : V} {c3 : Int} {t : Str} {it : Nat → V × V} {ks : List Nat} {mg : Str → Option Value} {bm : Addr} {ob : Obj}
    (D : DOk (u0 w) 2 nm_law_said d) (I : Inv nm_law_said d (sig5 i1 i2 (.list (witL it ks)) c3 t) s.heap cs)
    (hPW : 187 ∈ d.W) (hbP : d.hb.get? 187 = none) (cd : CodeHd d.hb 191 187) (hP : s.heap.get? 187 = some (tabObj #[])) (M : BMod d.hb mainGlobals mg bm ob) (hks : ∀ k ∈ ks, k < 6) (hlen : ks.length ≤ 100) (hok : JoinOk ", " (ks.map nmS) = true) (hok2 : lenOk ((preN2 ks.length).length + (Txt.join ", " (ks.map nmS)).length) = true)
    (hok3 : lenOk (Str.length "indent not equal e.g. " + (preN2 ks.length ++ Txt.join ", " (ks.map nmS)).length) = true) {Q : Value → Shared → Prop}
    (h : ∀ s' e dx te x1 x2 x3, s'.os = s.os → (AllBare s.gens → AllBare s'.gens) → (∀ b o, b ≠ 187 → s.heap.get? b = some o → s'.heap.get? b = some o) → (∃ ps, s'.heap.get? 187 = some (tabObj ps)) → ExcAt s'.heap e 116 (exF te .none) (some dx) (m3 x1 x2 x3) → s.heap.get? e = none → s.heap.get? dx = none → e ≠ 187 → dx ≠ 187 →
      (∀ g, R g (.int c3) x1) → (∀ g, R g (.str ("indent not equal e.g. " ++ (preN2 ks.length ++ Txt.join ", " (ks.map nmS)))) x2) → (∀ g, R g (.str t) x3) → Q (.ref e) s') :
    wpAny (model (u0 w).prog (u0 w).w) d.A (eval (call_said w) d.env) Q NoE s := by
  unfold call_said
  have hP0 : ∀ s', Kp s s' → (u0 w).K.In s'.heap := fun s' k => D.base.X.keeps (D.le.trans (I.keep.trans k.le))
  have hst1 : ∀ r, starEach (PySem.Expr.Name "number" ⟨202, 27, 202, 33⟩ :: r) d.env = (false, eval (.Name "number" ⟨202, 27, 202, 33⟩) d.env) :: starEach r d.env := fun r => star_ns rfl
  have hst2 : ∀ r, starEach (a2_said w :: r) d.env = (false, eval (a2_said w) d.env) :: starEach r d.env := fun r => star_ns rfl
  have hst3 : ∀ r, starEach (PySem.Expr.Name "line" ⟨202, 89, 202, 93⟩ :: r) d.env = (false, eval (.Name "line" ⟨202, 89, 202, 93⟩) d.env) :: starEach r d.env := fun r => star_ns rfl
  refine wpAny_Call_ofName (ex ((XE.glob (u := u0 w) (n := 2) (C := nm_law_said) "NannyNag" (.ref 116) ⟨202, 18, 202, 26⟩ (by rfl) (by decide +kernel) (by rfl)).snd _ _ _ rfl d s cs D I) fun f s1 q => ?_)
  have z13 := q; clear q; refine sA z13 fun k1 q => ?_; clear z13
  (refine R.rawC q fun z83 => ?_; clear q; cases (z83))
  have I1 := I.keeps k1.le
  refine callWith_of (P := fun g => (u0 w).K.In g) (by rw [hst1, hst2, hst3]; rfl) (fun g X => Keepable.fn (u := u0 w) (f := 116) (by kernel_rfl) g X) ?_
  have e : backTo (⟨202, 18, 202, 94⟩ : Pos) (starEach [PySem.Expr.Name "number" ⟨202, 27, 202, 33⟩, a2_said w, .Name "line" ⟨202, 89, 202, 93⟩] d.env) = (false, eval (.Name "number" ⟨202, 27, 202, 33⟩) d.env) :: backTo (⟨202, 18, 202, 94⟩ : Pos) (starEach [a2_said w, .Name "line" ⟨202, 89, 202, 93⟩] d.env) := by
    rw [hst1]; rfl
  rw [e]
  refine evalArgs_plain ?_
  rw [← e]
  refine wpAny_items_cons (ex ((XE.loc (u := u0 w) (n := 2) (C := nm_law_said) 3 ⟨202, 27, 202, 33⟩ "number" .local (by rfl)).snd _ (.int c3) false rfl d _ cs D I1) fun u1 s2 q => ?_) (hst1 _)
  refine sA q fun k2 r1 => ?_; try clear q
  have I2 := I1.keeps k2.le
  refine wpAny_items_cons ?_ (hst2 _)
  unfold a2_said
  refine wpAny_BinOp (ex ((XE.str (u := u0 w) (n := 2) (C := nm_law_said) "indent not equal e.g. " 0 ⟨202, 35, 202, 59⟩).snd _ _ _ rfl d _ cs D I2) fun x0 s3 q => ?_)
  refine sA q fun k3 r0 => ?_; try clear q
  have I3 := I2.keeps k3.le
  refine wpAny_Call_ofName (ex ((XE.glob (u := u0 w) (n := 2) (C := nm_law_said) "format_witnesses" (.ref 192) ⟨202, 62, 202, 78⟩ (by rfl) (by decide +kernel) (by rfl)).snd _ _ _ rfl d _ cs D I3) fun f s4 q => ?_)
  have z14 := q; clear q; refine sA z14 fun k4 q => ?_; clear z14
  (refine R.rawC q fun z84 => ?_; clear q; cases (z84))
  have I4 := I3.keeps k4.le
  refine callWith_ok (es := es_said w) (vs := [.list (witL it ks)]) (b := false) (first := []) rfl (Keepable.fn (by kernel_rfl)) D I4 fun us s5 k5 I5 rs => ?_
  refine sEEA (k1.trans (k2.trans (k3.trans (k4.trans k5)))) fun h5 tk5 z15 k05 => ?_; (first | subst z15 | cases (z15))
  clear k1 k2 k3 k4 k5 I1 I2 I3 I4
  refine Rs.consC rs fun _ _ eqx ra rn => ?_
  clear rs; cases (eqx)
  (refine Rs.nilC rn fun z85 => ?_; clear rn; cases (z85))
  have le05 : Le s.heap h5 := k05
  have hLh : d.env.locals ∈ hid nm_law_said d cs false := List.mem_append_right _ L_wr
  refine fw_call (W := hid nm_law_said d cs false) D.base D.room (I5.leB D) (I5.alive' D false) (List.mem_append_left _ hPW) hbP cd (le05 _ _ hP) M hks hlen hok hok2 ra fun s6 r6 hos hbare k6 hP6 hr6 => ?_
  have z16 := hP6; clear hP6; refine sE z16 fun ps hP6 => ?_; clear z16
  refine sA (Inv.shift (h' := s6.heap) rfl D I5 hPW hbP k6 (by rw [hP6]; exact fun z => by cases z)) fun D6 I6 => ?_
  have r0' : R (hideAll s6.heap []) (.str "indent not equal e.g. ") x0 := r0.of_flat rfl
  refine ex (binop_ok (W := []) (s := s6) (op := .Add) (a := .str "indent not equal e.g. ") (b := .str (preN2 ks.length ++ Txt.join ", " (ks.map nmS))) (c := .str ("indent not equal e.g. " ++ (preN2 ks.length ++ Txt.join ", " (ks.map nmS)))) ?_ r0' (hr6 _) (fun q m => by exact nn4 m)) fun u2 s7 q => ?_
  · show (if lenOk (Str.length "indent not equal e.g. " + (preN2 ks.length ++ Txt.join ", " (ks.map nmS)).length) then some (V.str ("indent not equal e.g. " ++ (preN2 ks.length ++ Txt.join ", " (ks.map nmS)))) else none) = _
    rw [hok3]; rfl
  refine sA q fun k7 r2 => ?_; try clear q
  have I7 := I6.keeps k7.le
  refine wpAny_items_cons (ex ((XE.loc (u := u0 w) (n := 2) (C := nm_law_said) 4 ⟨202, 89, 202, 93⟩ "line" .local (by rfl)).snd (sig5 i1 i2 (.list (witL it ks)) c3 t) (.str t) false rfl { d with he := hideAll s6.heap (wr nm_law_said d cs) } _ cs D6 I7) fun u3 s8 q => ?_) (hst3 _)
  refine sA q fun k8 r3 => ?_; try clear q
  have I8 := I7.keeps k8.le
  refine sEEA (k7.trans k8) fun h8 tk8 z17 k08 => ?_; (first | subst z17 | cases (z17))
  clear k7 k8 I7
  have le8 := I8.leB D6
  have le8 : LeB d.hb h8 := le8
  have al8 := I8.alive D6 d.env.locals (List.mem_append_right _ L_wr)
  have X8 : (u0 w).K.In h8 := D.base.X.keeps le8.le
  refine spliced_nil ⟨X8, ?_⟩
  refine nn_call (hb := d.hb) (W := []) (v1 := .int c3) (v2 := .str ("indent not equal e.g. " ++ (preN2 ks.length ++ Txt.join ", " (ks.map nmS)))) (v3 := .str t) D.base D.room le8 (fun a m => by exact nn4 m) (r1.of_flat rfl) (r2.of_flat rfl) (r3.of_flat rfl) rfl rfl rfl (top := d.env.locals) al8 D.above fun s9 ee dx te x1 x2 x3 sm he hen hdn k9 q1 q2 q3 => ?_
  refine sEE sm fun h9 tk9 z18 => ?_; try clear sm; (first | subst z18 | cases (z18))
  have hP8 : h8.get? 187 = some (tabObj ps) := k08 _ _ hP6
  have keep : ∀ b o, b ≠ 187 → s.heap.get? b = some o → h8.get? b = some o := fun b o nb q => k08 _ _ (k6 b o nb (le05 b o q))
  have ne : ee ≠ 187 := fun q => by rw [q] at hen; exact absurd (hP8.symm.trans hen) (fun z => by exact nn1 z)
  have nd : dx ≠ 187 := fun q => by rw [q] at hdn; exact absurd (hP8.symm.trans hdn) (fun z => by exact nn1 z)
  have old : ∀ b, b ≠ 187 → h8.get? b = none → s.heap.get? b = none := fun b nb q => by
    cases z : s.heap.get? b with
    | none => rfl
    | some o => exact absurd ((keep b o nb z).symm.trans q) (fun y => by exact nn1 y)
  exact h _ ee dx te x1 x2 x3 hos hbare (fun b o nb q => k9 _ _ (keep b o nb q)) ⟨ps, k9 _ _ hP8⟩ he (old _ ne hen) (old _ nd hdn) ne nd q1 q2 q3
theorem x1_said_den (w : World) {fs : List (Str × V)} {i2 wt : V} {c3 : Int} {t : Str} (heq : (c_Whitespace_equal w).den [.inst 181 fs, i2] = some (.bool false)) (hfs : fs.lookup ("equal" : Str) = none) : (x1_said w).den (sigma nm_law_said [.inst 181 fs, i2, wt, .int c3, .str t]) = some (.next, sig5 (.inst 181 fs) i2 wt c3 t) :=
  assign_den' (b := false) (methL_den (f := false) (g := false) rfl hfs rfl heq) rfl
set_option maxHeartbeats 2000000 in
theorem said_call {w : World} {A : Around} {s : Shared} {hb : Heap} {W : List Addr} {vs : List Value} {fs : List (Str × V)} {i2 : V} {c3 : Int} {t : Str} {it : Nat → V × V} {ks : List Nat} {mg : Str → Option Value} {bm : Addr} {ob : Obj} {outer : List Env}
    (B : Base (u0 w) hb) (rm : Room 3 A) (le : LeB hb s.heap) (al : ∀ a ∈ W, s.heap.get? a ≠ none) (hfr : A.frames = some outer) (hfun : s.heap.FunFrames hb outer) (hPW : 187 ∈ W) (hbP : hb.get? 187 = none) (cd : CodeHd hb 191 187) (hP : s.heap.get? 187 = some (tabObj #[])) (M : BMod hb mainGlobals mg bm ob)
    (hks : ∀ k ∈ ks, k < 6) (hlen : ks.length ≤ 100) (hok : JoinOk ", " (ks.map nmS) = true) (hok2 : lenOk ((preN2 ks.length).length + (Txt.join ", " (ks.map nmS)).length) = true) (hok3 : lenOk (Str.length "indent not equal e.g. " + (preN2 ks.length ++ Txt.join ", " (ks.map nmS)).length) = true)
    (heq : (c_Whitespace_equal w).den [.inst 181 fs, i2] = some (.bool false)) (hfs : fs.lookup ("equal" : Str) = none) (rs : Rs (hideAll s.heap W) [.inst 181 fs, i2, .list (witL it ks), .int c3, .str t] vs) {Q : Value → Shared → Prop}
    (h : ∀ s' l x1 x2 x3, s'.os = s.os → (AllBare s.gens → AllBare s'.gens) → (∀ b o, b ≠ 187 → b ∉ outer.filterMap (·.frame) → s.heap.get? b = some o → s'.heap.get? b = some o) → (∀ b o, b ≠ 187 → s.heap.get? b = some o → ∃ sl, s'.heap.get? b = some { o with slots := sl }) → (∃ ps, s'.heap.get? 187 = some (tabObj ps)) →
      s'.heap.get? l = some { cls := .type "list", data := .seq #[x1, x2, x3] } → (∀ g, R g (.int c3) x1) → (∀ g, R g (.str ("indent not equal e.g. " ++ (preN2 ks.length ++ Txt.join ", " (ks.map nmS)))) x2) → (∀ g, R g (.str t) x3) → Q (.ref l) s') :
    wpAny (model (u0 w).prog (u0 w).w) A (call (.ref 251) vs) Q NoE s := by
  refine call_frame (n := 2) (args := [.inst 181 fs, i2, .list (witL it ks), .int c3, .str t]) (d_said w) (Nat.le_of_ble_eq_true rfl) (e_law_said w) B rm le al rs fun h₀ tk env hL hfrm hk hg hbi hcd hkind D I hlt leh => ?_
  have hLs : s.heap.get? env.locals = none := by rw [hL]; exact fresh_size _
  have hLP : env.locals ≠ 187 := fun q => by rw [q, hP] at hLs; exact nn1 hLs
  refine wpAny_execs_cons (ex ((x1_said w).snd _ .next _ (x1_said_den w heq hfs) _ _ _ D I) fun f s1 q => ?_)
  refine sAEA q fun sm1 cs1 I1 z19 => ?_; try clear q; (first | subst z19 | cases (z19))
  have k01 : Le s.heap s1.heap := I1.keep
  refine wpAny_execs_cons (wpAny_Try_except (wpAny_execs_cons (wpAny_If (ex ((xt_said w).snd _ true rfl _ _ cs1 D I1) fun z s2 q => ?_))))
  refine sA q fun k2 hz => ?_; try clear q
  rw [hz]
  have I2 := I1.keeps k2.le
  have k02 : Le s.heap s2.heap := k01.trans k2.le
  refine sEE (sm1.trans k2.sm) fun h2 tk2 z20 => ?_; (first | subst z20 | cases (z20))
  clear sm1 k2 k01 I1
  simp only [if_true]
  refine wpAny_execs_cons ?_
  rw [arm_exec_Raise]
  refine wpAny_bind (wpAny_standAt (nn_raiseStmt (w := w) D.room.handled (wpAny_bind (ex (said_raise D I2 hPW hbP cd (k02 _ _ hP) M hks hlen hok hok2 hok3 fun s3 e dx te x1 x2 x3 hos hbare k3 hP3 he hen hdn neP ndP q1 q2 q3 => ?_) fun v s₃ h₃ => wpAny_bind (wpAny_standAt (wpAny_pure h₃))))))
  have hfrm' : env.frame = some env.locals := hfrm.trans (congrArg some hL.symm)
  have hLh2 : h2.get? env.locals ≠ none := I2.alive D _ (List.mem_append_right _ L_wr)
  refine sEA I2.ns fun m hn2 _ => ?_
  have hn3 : s3.heap.Ns env.locals m := hn2.at' fun o q => k3 _ o hLP q
  have hbL : hb.get? env.locals = none := le.le.none hLs
  have hLe : env.locals ≠ e := fun q => hLh2 (q ▸ hen)
  have hLd : env.locals ≠ dx := fun q => hLh2 (q ▸ hdn)
  have le3 : Le hb s3.heap := fun b o q => k3 b o (fun z => by rw [z, hbP] at q; exact nn0 q) (k02 b o (le.le b o q))
  have hbe : hb.get? e = none := (Le.trans le.le k02).none hen
  have hfun3 : s3.heap.FunFrames hb (env :: outer) := by
    refine ⟨by rw [hk]; decide, ?_, hfun.of_keeps fun b o ho hnf => ⟨o, k3 b o (fun z => ?_) (k02 b o ho), rfl⟩⟩
    · refine sEEEAA hn3 fun o es ep ho hd _ => ?_; try clear hn3
      exact ⟨env.locals, o, hfrm', hbL, ho, fun vs z => by rw [hd] at z; cases (z)⟩
    · rw [z, hP] at ho; cases (ho); exact hnf _ rfl
  have frL : ∀ b, b ∈ (env :: outer).filterMap (·.frame) → b = env.locals ∨ b ∈ outer.filterMap (·.frame) := fun b mb => by
    rw [List.filterMap_cons, hfrm'] at mb
    rcases List.mem_cons.mp mb with mb | mb
    · exact .inl mb
    · exact .inr mb
  have hdx : dx ∉ (env :: outer).filterMap (·.frame) := fun mb => by
    rcases frL _ mb with q | q
    · exact hLd q.symm
    · refine sAEA (hfun.mem q) fun _ o ho _ => ?_
      rw [k02 _ _ ho] at hdn; exact nn1 hdn
  have hfrb : ∀ b o, hb.get? b = some o → b ∉ (env :: outer).filterMap (·.frame) := fun b o q mb => by rw [(hfun3.mem mb).1] at q; exact nn0 q
  have g1 : handedIn x1 = true := by cases q1 s.heap; rfl
  have g2 : handedIn x2 = true := by cases q2 s.heap; rfl
  have g3 : handedIn x3 = true := by cases q3 s.heap; rfl
  have hxn : env.kindOf "nag" = some .local := (D.env.kinds ("nag", .local) (by decide)).resolve_right fun z => by cases z.1
  have hxc : env.kindOf "NannyNag" = some .globalImplicit := D.env.globs _ (by decide)
  have hpk : (env.scope.kind == .class || (env.scope.kind == .module && env.locals != env.globals)) = false := by rw [hk]; rfl
  refine ⟨e, te, dx, _, rfl, B.X.keeps le3 _ _ (nn_obj w), he, note_new (base := hb) (Around.frames_deeper hfr) hfun3 (hfrm') he hdx fun h4 T u4 he4 hT4 hTn => flight he4 hT4 fun h5 k5 he5 hT5 => ?_⟩
  have hLT : env.locals ≠ T := fun q => by refine sEEEA hn3 fun o _ _ ho _ => ?_; try clear hn3; rw [q, hTn] at ho; exact nn0 ho
  have le5 : Le hb h5 := fun b o q => k5 b o (fun z => by rw [← z, le3 b o q] at hTn; exact nn1 hTn) (u4.same b o (hfrb b o q) (fun z => by rw [z, hbe] at q; exact nn0 q) (le3 b o q))
  have hn5 : h5.Ns env.locals m := (u4.ns hn3 hLe).at' fun o q => k5 _ o hLT q
  show wpAny _ _ (handleBy (.ref e) env [.ExceptHandler (some (.Name "NannyNag" ⟨203, 11, 203, 19⟩)) (some "nag") [.Return (some nagL) ⟨204, 8, 204, 64⟩] ⟨203, 4, 204, 64⟩]) _ _ _
  refine nn_handle (w := w) (glob_at (w := w) (hb := hb) B le5 hk hxc hg rfl (by decide) ⟨rfl, B.X.keeps le5 _ _ (nn_obj w), ⟨_, he5.1, rfl⟩, flight he5 hT5 fun h6 k6 he6 hT6 => ?_⟩)
  have hn6 : h6.Ns env.locals m := hn5.at' fun o q => k6 _ o hLT q
  refine wpAny_storeName_local hxn hn6 (fun h7 hn7 hs7 => ?_) hpk
  have k7 : ∀ b o, b ≠ env.locals → h6.get? b = some o → h7.get? b = some o := fun b o nb q => (hs7.2 b nb).trans q
  have he7 : ExcAt h7 e 116 (exF te (.ref T)) (some dx) (m3 x1 x2 x3) := ⟨k7 _ _ (Ne.symm hLe) he6.1, he6.2.1, he6.2.2.sameBut hs7 (Ne.symm hLd)⟩
  have le7 : Le hb h7 := fun b o q => k7 b o (fun z => by rw [z, hbL] at q; exact nn0 q) (k6 b o (fun z => by rw [← z, le3 b o q] at hTn; exact nn1 hTn) (le5 b o q))
  refine wpAny_execs_cons (wpAny_Return_some (nag_list (A := (A.deeper env).mark (some (.ref e))) (w := w) (hb := hb) B le7 (show (A.deeper env).depth < recursionLimit from D.room.dep) hk hxn hn7 (by rw [if_pos rfl]) he7 g1 g2 g3 fun h8 tk8 l le8 hl8 => ?_))
  have hn8 := hn7.keeps le8
  refine wpAny_nameGoes hxn hn8 hpk fun h9 m9 hn9 hs9 => ?_
  have hlL : l ≠ env.locals := fun q => by refine sEEEAA hn8 fun o es ep ho hd _ => ?_; try clear hn8; rw [← q, hl8] at ho; cases (ho); cases (hd)
  have k49 : ∀ b o, b ≠ env.locals → b ≠ T → h4.get? b = some o → h9.get? b = some o := fun b o n1 n2 q => (hs9.2 b n1).trans (le8 b o (k7 b o n1 (k6 b o n2 (k5 b o n2 q))))
  have nL : ∀ b o, s.heap.get? b = some o → b ≠ env.locals := fun b o q z => by rw [z, hLs] at q; exact nn0 q
  have nE : ∀ b o, s.heap.get? b = some o → b ≠ e := fun b o q z => by rw [z] at q; rw [k02 _ _ q] at hen; exact nn1 hen
  have nT : ∀ b o, b ≠ 187 → s.heap.get? b = some o → b ≠ T := fun b o nb q z => by rw [← z, k3 b o nb (k02 b o q)] at hTn; exact nn1 hTn
  refine h _ l x1 x2 x3 hos hbare (fun b o nb nf q => ?_) (fun b o nb q => ?_) ?_ ((hs9.2 l hlL).trans hl8) q1 q2 q3
  · exact k49 b o (nL b o q) (nT b o nb q) (u4.same b o (fun mb => (frL b mb).elim (nL b o q) nf) (nE b o q) (k3 b o nb (k02 b o q)))
  · refine sE (u4.slots b o (nE b o q) (k3 b o nb (k02 b o q))) fun sl z => ?_
    exact ⟨sl, k49 b _ (nL b o q) (nT b o nb q) z⟩
  · have z21 := hP3; clear hP3; refine sE z21 fun ps hP3 => ?_; clear z21
    refine ⟨ps, k49 187 _ (Ne.symm hLP) (fun z => ?_) (u4.same _ _ (fun mb => ?_) (Ne.symm neP) hP3)⟩
    · rw [← z, hP3] at hTn; exact nn1 hTn
    · refine sAEA (hfun3.mem mb) fun _ o ho hnf => ?_
      rw [hP3] at ho; cases (ho); exact hnf _ rfl
noncomputable def msgOf (ks : List Nat) : Str := "indent not equal e.g. " ++ (preN2 ks.length ++ Txt.join ", " (ks.map nmS))
theorem msg_tab : sub5.map msgOf = sub5.map msgS := by kernel_rfl
theorem ok_tab : (sub5.all fun ks => JoinOk ", " (ks.map nmS) && lenOk ((preN2 ks.length).length + (Txt.join ", " (ks.map nmS)).length) && lenOk (Str.length "indent not equal e.g. " + (preN2 ks.length ++ Txt.join ", " (ks.map nmS)).length) && PyData.strOk (msgS ks) && ks.all (fun k => decide (k < 6)) && decide (ks.length ≤ 100)) = true := by kernel_rfl
theorem sub_ok {ks : List Nat} (m : ks ∈ sub5) : JoinOk ", " (ks.map nmS) = true ∧ lenOk ((preN2 ks.length).length + (Txt.join ", " (ks.map nmS)).length) = true ∧ lenOk (Str.length "indent not equal e.g. " + (preN2 ks.length ++ Txt.join ", " (ks.map nmS)).length) = true ∧ PyData.strOk (msgS ks) = true ∧ (∀ k ∈ ks, k < 6) ∧ ks.length ≤ 100 := by
  have h := List.all_eq_true.mp ok_tab ks m
  simp only [Bool.and_eq_true, decide_eq_true_eq, List.all_eq_true] at h
  refine sA h fun z1 f => ?_; try clear h; refine sA z1 fun z2 e => ?_; try clear z1; refine sA z2 fun z3 d => ?_; try clear z2; refine sA z3 fun z4 c => ?_; try clear z3; refine sA z4 fun a b => ?_; try clear z4
  exact ⟨a, b, c, d, e, f⟩
theorem eq_said (c3 : Int) {m t : Str} (hm : PyData.strOk m = true) (ht : PyData.strOk t = true) : cmpop .Eq (.list [.int c3, .str m, .str t]) (.list [.int c3, .str m, .str t]) = some true := by
  show eqV (.list [.int c3, .str m, .str t]) (.list [.int c3, .str m, .str t]) = some true
  have hd : V.data (.list [.int c3, .str m, .str t]) = some (.list [.int c3, .str m, .str t]) := rfl
  have hl : PyData.canLayAll0 [.int c3, .str m, .str t] = true := by
    show (true && (PyData.strOk m && (PyData.strOk t && true))) = true
    rw [hm, ht]; rfl
  have hs : SeqAt.shaped (.list [.int c3, .str m, .str t]) = true := by
    unfold SeqAt.shaped
    rw [Bool.and_eq_true]
    exact ⟨hl, rfl⟩
  unfold eqV
  rw [hd]
  dsimp only
  rw [hs]
  show some (PyData.eqv (.list [.int c3, .str m, .str t]) (.list [.int c3, .str m, .str t])) = _
  rw [SeqAt.eqv_refl (.list [.int c3, .str m, .str t]) hl]
theorem q_said (w : World) {fs : List (Str × V)} {i2 wt : V} {c3 : Int} {t : Str} (heq : (c_Whitespace_equal w).den [.inst 181 fs, i2] = some (.bool true)) (hfs : fs.lookup ("equal" : Str) = none) : (c_law_said w).den [.inst 181 fs, i2, wt, .int c3, .str t] = some (.list []) := by
  refine ofDef0_den rfl ?_
  unfold b_law_said
  refine cons_rets (σ1 := [.val (.inst 181 fs), .val i2, .val wt, .val (.int c3), .val (.str t), .val (.bool true), .unset]) (assign_den' (b := false) (methL_den (f := false) (g := false) rfl hfs rfl heq) rfl) ?_
  refine cons_rets (σ1 := [.val (.inst 181 fs), .val i2, .val wt, .val (.int c3), .val (.str t), .val (.bool true), .unset]) (by kernel_rfl) ?_
  exact ret_rets (b := false) (by kernel_rfl)
noncomputable def es_last (w : World) : List (XA (u0 w) 4 nm_law) := [⟨XE.loc 6 ⟨248, 21, 248, 26⟩ "first" .cell (by rfl), rfl⟩, ⟨XE.loc 7 ⟨248, 28, 248, 34⟩ "second" .cell (by rfl), rfl⟩, ⟨XE.loc 16 ⟨248, 36, 248, 43⟩ "witness" .local (by rfl), rfl⟩, ⟨XE.idx (XE.loc 1 ⟨248, 45, 248, 50⟩ "cells" .local (by rfl)) (XE.int 3 0 ⟨248, 51, 248, 52⟩) ⟨248, 45, 248, 53⟩, rfl⟩, ⟨XE.loc 5 ⟨248, 55, 248, 59⟩ "line" .local (by rfl), rfl⟩]
noncomputable def x_last (w : World) : X1 (u0 w) 4 nm_law := X1.ret (XE.cmp .Eq (XE.call "_law_said" (.ref 251) ((c_law_said w).lift (by decide)) (es_last w) ⟨248, 11, 248, 20⟩ ⟨248, 11, 248, 60⟩ (by rfl) (Keepable.fn (by kernel_rfl)) (by decide +kernel) (by rfl)) (XE.loc 21 ⟨248, 64, 248, 67⟩ "due" .local (by rfl)) ⟨248, 11, 248, 67⟩ (by rfl)) ⟨248, 4, 248, 67⟩
theorem last_denL (w : World) (l : Lw w) {row fresh size heft whole over gain far near steps words : SV} : denL (es_last w) (l.fin row fresh size heft whole over gain far near steps words) = some ([l.i1, l.i2, witV l.a l.b l.c l.d l.e l.f l.g, .int l.c3, .str l.t2], false) := by
  unfold es_last
  exact denL_cons0 rfl (denL_cons0 rfl (denL_cons0 rfl (denL_cons0 (idx_den (f := false) (g := false) rfl rfl rfl) (denL_cons0 rfl rfl))))
set_option maxHeartbeats 2000000 in
theorem law_last {w : World} {s : Shared} {d : Dy} {cs : List CS} {l : Lw w} {row fresh size heft whole over gain far near steps words : SV} {mg : Str → Option Value} {bm : Addr} {ob : Obj}
    (D : DOk (u0 w) 4 nm_law d) (I : Inv nm_law d (l.fin row fresh size heft whole over gain far near steps words) s.heap cs) (hfr : d.A.frames = some [d.env]) (hfrm : d.env.frame = some d.env.locals) (hPW : 187 ∈ d.W) (hbP : d.hb.get? 187 = none) (cd : CodeHd d.hb 191 187) (hP : d.he.get? 187 = some (tabObj #[])) (M : BMod d.hb mainGlobals mg bm ob)
    {Q : Flow → Shared → Prop} (h : ∀ s', s'.os = s.os → (AllBare s.gens → AllBare s'.gens) → (∀ b o, b ≠ 187 → d.he.get? b = some o → s'.heap.get? b = some o) → (∃ ps, s'.heap.get? 187 = some (tabObj ps)) → Q (.ret (.bool true)) s') :
    wpAny (model (u0 w).prog (u0 w).w) d.A (exec (x_last w).st d.env) Q NoE s := by
  have heq := q_equal w (t1 := l.t1) (t2 := l.t2) (n1 := l.n1) (n2 := l.n2) (s1 := l.s1) (s2 := l.s2) (xs := cnt l.a l.b l.c) (ys := cnt l.d l.e l.f) (g := (l.g : Int))
  have hfs : (fsV l.t1 l.n1 l.s1 (cnt l.a l.b l.c) l.g).lookup ("equal" : Str) = none := by kernel_rfl
  have hL := last_denL w l (row := row) (fresh := fresh) (size := size) (heft := heft) (whole := whole) (over := over) (gain := gain) (far := far) (near := near) (steps := steps) (words := words)
  have hdue : (l.fin row fresh size heft whole over gain far near steps words)[21]? = some (.val l.dueV) := rfl
  cases hq : (cnt l.a l.b l.c == cnt l.d l.e l.f) with
  | true =>
    rw [hq] at heq
    have hd : l.dueV = .list [] := by unfold Lw.dueV; rw [if_pos hq]
    rw [hd] at hdue
    have hden : (x_last w).den (l.fin row fresh size heft whole over gain far near steps words) = some (.ret (.bool true), l.fin row fresh size heft whole over gain far near steps words) := by
      unfold x_last
      exact ret_den (cmpE_den (x := .list []) (y := .list []) (f := false) (g := false) (callL_den hL (q_said w heq hfs)) (loc_den hdue) (by kernel_rfl))
    refine ex ((x_last w).snd _ _ _ hden d s cs D I) fun f s' q => ?_
    refine sAEAEA q fun z5 cs' I' x z6 r => ?_; try clear q; refine sEE z5 fun h' tk z7 => ?_; try clear z5; (first | subst z7 | cases (z7)); (first | subst z6 | cases (z6))
    (refine R.boolC r fun z17 => ?_; clear r; cases (z17))
    exact h _ rfl (fun G => G) (fun b o _ e => I'.keep b o e) ⟨#[], I'.keep _ _ hP⟩
  | false =>
    rw [hq] at heq
    have hm := sel_sub5 l.T_lt
    refine sAAAAA (sub_ok hm) fun o1 o2 o3 o4 o5 o6 => ?_
    have hmsg := tabF msg_tab hm
    have hd : l.dueV = .list [.int l.c3, .str (msgS (selN l.a l.b l.c l.d l.e l.f l.g)), .str l.t2] := by unfold Lw.dueV; rw [if_neg (by rw [hq]; decide)]
    rw [hd] at hdue
    refine wpAny_Return_some (wpAny_Compare1 ?_ rfl)
    refine wpAny_Call_ofName (ex ((XE.glob (u := u0 w) (n := 4) (C := nm_law) "_law_said" (.ref 251) ⟨248, 11, 248, 20⟩ (by rfl) (by decide +kernel) (by rfl)).snd _ _ _ rfl d s cs D I) fun f s1 q => ?_)
    have z9 := q; clear q; refine sA z9 fun z8 q => ?_; clear z9; refine sEEA z8 fun h1 tk1 z10 k1 => ?_; try clear z8; (first | subst z10 | cases (z10))
    (refine R.rawC q fun z18 => ?_; clear q; cases (z18))
    have I1 := I.keeps (h' := h1) k1
    refine callWith_ok (es := es_last w) (first := []) hL (Keepable.fn (by kernel_rfl)) D I1 fun us s2 k2 I2 rs => ?_
    have z12 := k2; clear k2; refine sEEA z12 fun h2 tk2 z11 k2 => ?_; clear z12; (first | subst z11 | cases (z11))
    refine sEA I2.ns fun m hn2 hst => ?_
    have hLw : d.env.locals ∈ wr nm_law d cs := L_wr
    have hhe : d.he.get? d.env.locals = none := I2.fresh _ hLw
    have hbL : d.hb.get? d.env.locals = none := D.le.none hhe
    have hLP : d.env.locals ≠ 187 := fun z => by rw [z, hP] at hhe; exact nn1 hhe
    have hfun : h2.FunFrames d.hb [d.env] := by
      refine ⟨by rw [D.env.kind]; decide, ?_, trivial⟩
      refine sEEEAA hn2 fun o es ep ho hd _ => ?_; try clear hn2
      exact ⟨d.env.locals, o, hfrm, hbL, ho, fun vs z => by rw [hd] at z; cases (z)⟩
    refine said_call (it := itW l.a l.b l.c l.d l.e l.f l.g) (ks := selN l.a l.b l.c l.d l.e l.f l.g) (W := hid nm_law d cs false) (outer := [d.env]) D.base (D.room.less (by decide)) (I2.leB D) (I2.alive' D false) hfr hfun (List.mem_append_left _ hPW) hbP cd (I2.keep _ _ hP) M o5 o6 o1 o2 o3 heq hfs rs fun s3 ll x1 x2 x3 hos hbare same slots hP3 hl q1 q2 q3 => ?_
    have hn3 : s3.heap.Ns d.env.locals m := by
      refine sEEEAA hn2 fun o es ep ho hd r => ?_; try clear hn2
      refine sE (slots _ o hLP ho) fun sl z => ?_
      exact ⟨_, es, ep, z, hd, r⟩
    refine sEA (I2.slotAt hdue) fun c hc sr => ?_
    refine SR.valC sr fun u eqx r => ?_
    clear sr; cases (eqx)
    have hmu : m "due" = some u := hst 21 ("due", .local) (.val u) rfl hc
    have hxk : d.env.kindOf "due" = some .local := (D.env.kinds ("due", .local) (by decide)).resolve_right fun z => by cases z.1
    have hfrl : ∀ b, b ∈ [d.env].filterMap (·.frame) → b = d.env.locals := fun b mb => by
      rw [List.filterMap_cons, hfrm] at mb
      rcases List.mem_cons.mp mb with mb | mb
      · exact mb
      · exact nn4 mb
    refine name_at D.env.kind hxk hn3 hmu (by decide) ?_
    have r1 : R s3.heap (.list [.int l.c3, .str (msgS (selN l.a l.b l.c l.d l.e l.f l.g)), .str l.t2]) (.ref ll) := by
      rw [← hmsg]
      exact .list (vs := [x1, x2, x3]) ⟨_, hl, rfl, _, rfl⟩ (.cons (q1 _) (.cons (q2 _) (.cons (q3 _) .nil)))
    have r2 : R s3.heap (.list [.int l.c3, .str (msgS (selN l.a l.b l.c l.d l.e l.f l.g)), .str l.t2]) u := r.mono fun b o e => by
      refine sA (hide_get e) fun e1 e2 => ?_
      exact same b o (fun z => e2 (List.mem_append_left _ (z ▸ hPW))) (fun mb => e2 (List.mem_append_right _ (hfrl b mb ▸ hLw))) e1
    refine ex (cmpop_ok (s := s3) (eq_said l.c3 o4 l.ht) r1 r2 (by have := D.room.units; omega)) fun z s4 q => ?_
    refine sA q fun z13 z14 => ?_; try clear q; (first | subst z13 | cases (z13)); (first | subst z14 | cases (z14))
    exact h _ hos hbare (fun b o nb e => same b o nb (fun mb => by rw [hfrl b mb, hhe] at e; exact nn0 e) (I2.keep b o e)) hP3
theorem execs_app {env : Env} {ys : List Stmt} : ∀ xs : List Stmt, execs (xs ++ ys) env = (execs xs env >>= fun f => match f with | .next => execs ys env | f => pure f)
  | [] => rfl
  | st :: r => by
    rw [List.cons_append, execs_cons, execs_cons, execs_app r, bind_assoc]
    congr 1
    funext f
    cases (f) <;> rfl
theorem xs_then {u : U} {n : Nat} {C : Nm} {b : XS u n C} {σ σ' : List SV} (hb : b.den σ = some (.next, σ')) {d : Dy} {s : Shared} {cs : List CS} (D : DOk u n C d) (I : Inv C d σ s.heap cs) {ys : List Stmt} {Q : Flow → Shared → Prop} {E : Value → Shared → Prop}
    (h : ∀ s' cs', Sm s s' → Inv C d σ' s'.heap cs' → wpAny (model u.prog u.w) d.A (execs ys d.env) Q E s') : wpAny (model u.prog u.w) d.A (execs (b.ss ++ ys) d.env) Q E s := by
  rw [execs_app]
  refine wpAny_bind (ex (b.snd σ _ _ hb d s cs D I) fun f s' q => ?_)
  refine sAEA q fun sm cs' I' z15 => ?_; try clear q; (first | subst z15 | cases (z15))
  exact h s' cs' sm I'
theorem law_walk {w : World} {s : Shared} {d : Dy} {cs : List CS} {xs : List Int} {mg : Str → Option Value} {bm : Addr} {ob : Obj} (hx : xs.length ≤ 63)
    (D : DOk (u0 w) 4 nm_law d) (I : Inv nm_law d (sigma nm_law [.list (xs.map .int)]) s.heap cs) (hfr : d.A.frames = some [d.env]) (hfrm : d.env.frame = some d.env.locals) (hPW : 187 ∈ d.W) (hbP : d.hb.get? 187 = none) (cd : CodeHd d.hb 191 187) (hP : d.he.get? 187 = some (tabObj #[])) (M : BMod d.hb mainGlobals mg bm ob)
    {Q : Flow → Shared → Prop} {E : Value → Shared → Prop} (h : ∀ s', s'.os = s.os → (AllBare s.gens → AllBare s'.gens) → (∀ b o, b ≠ 187 → d.he.get? b = some o → s'.heap.get? b = some o) → (∃ ps, s'.heap.get? 187 = some (tabObj ps)) → Q (.ret (.bool true)) s') :
    wpAny (model (u0 w).prog (u0 w).w) d.A (execs ((b_law w).ss ++ [(x_last w).st]) d.env) Q E s := by
  obtain ⟨l, row, fresh, size, heft, whole, over, gain, far, near, steps, words, hden⟩ := law_den w xs hx
  refine xs_then hden D I fun s' cs' sm I' => ?_
  refine sEE sm fun h' tk z16 => ?_; try clear sm; (first | subst z16 | cases (z16))
  exact wpAny_execs_cons (wpAny_mono (law_last D I' hfr hfrm hPW hbP cd hP M (Q := fun f s' => match f with | .next => wpAny (model (u0 w).prog (u0 w).w) d.A (execs [] d.env) Q E s' | f => Q f s') h) (fun _ _ q => q) fun _ _ f => f.elim)
theorem mem_lookup {β : Type} {l : List (Str × β)} {x : Str} {v : β} (e : l.lookup x = some v) : (x, v) ∈ l := by
  induction l with
  | nil => exact nn0 e
  | cons p r ih =>
    obtain ⟨b, y⟩ := p
    rw [List.lookup_cons] at e
    cases hb : x == b with
    | true => rw [hb] at e; cases (e); rw [eq_of_beq hb]; exact .head _
    | false => rw [hb] at e; exact .tail _ (ih e)
theorem gs0_in (w : World) : ∀ p ∈ gs0, nsIn (u0 w).K mainGlobals p.1 = some (some p.2) := by
  simp only [gs0, List.forall_mem_cons]
  refine ⟨?_, ?_, ?_, ?_, ?_, ?_, ?_, ?_, ?_, ?_, ?_, ?_, ?_, ?_, ?_, ?_, ?_, ?_, fun _ h => nomatch h⟩ <;> kernel_rfl
theorem bs0_in (w : World) : ∀ p ∈ bs0, nsIn (u0 w).K mainGlobals p.1 = some none ∧ bootBuiltins p.1 = some p.2 ∧ p.1 ≠ "__name__" := by
  simp only [bs0, List.forall_mem_cons]
  refine ⟨?_, ?_, ?_, ?_, ?_, ?_, ?_, ?_, ?_, fun _ h => nomatch h⟩ <;> exact ⟨by kernel_rfl, by kernel_rfl, by decide +kernel⟩
theorem tabs_top {w : World} {loose : List Str} {mean : ExcName → Option Value} {mg mb : Str → Option Value} {h : Heap} (T : Top vw loose mean mg mb h) (KX : (u0 w).K.In h) : TabsAt [(191, 187)] h := by
  intro q hq
  rw [List.mem_singleton] at hq
  subst hq
  have ht : tabIn (u0 w).K "format_witnesses" = some (191, 187) := by kernel_rfl
  cases hr : (recsOf vw).find? (fun e => e.name == ("format_witnesses" : Str)) with
  | none => exact absurd (show ((recsOf vw).find? (fun e => e.name == ("format_witnesses" : Str))).isSome = true by kernel_rfl) (by rw [hr]; simp)
  | some d => exact tab_of T KX hr ht
theorem base_top {w : World} {loose : List Str} {mean : ExcName → Option Value} {mg mb : Str → Option Value} {h : Heap} (T : Top vw loose mean mg mb h) (KX : (u0 w).K.In h) : Base (u0 w) (hideAll h [187]) := by
  have hT := tabs_top T KX
  refine ⟨ghost_K hT KX (by kernel_rfl), ?_, mg, mb, ghost_ns hT T.g, ghost_ns hT T.b, fun x v e => ?_, fun x v e => ?_⟩
  · refine sEA T.nolimit fun mc a r => ?_
    exact ⟨mc, ghost_ns hT a, r⟩
  · exact mg_of KX T.g (gs0_in w _ (mem_lookup e))
  · refine sAA (bs0_in w _ (mem_lookup e)) fun h1 h2 h3 => ?_
    exact ⟨mg_none_of KX T.g h1, (T.builtins x h3).trans h2⟩
noncomputable def kindsOk (ns : List (Str × NameKind)) : Bool := nm_law.slots.all (fun p => ns.lookup p.1 == some p.2) && nm_law.globs.all fun x => ns.lookup x == some .globalImplicit
noncomputable def localsOk (m : Str → Option Value) : Bool := nm_law.slots.tail.all fun p => p.2 != .local || (m p.1).isNone
noncomputable abbrev lawCells (L : Nat) : List (Str × Addr) := [(("second" : Str), L + 1 + 1), (("first" : Str), L + 1)]
theorem no3 (l L : Nat) (h : l < L) (q : l = L ∨ l = L + 1 ∨ l = L + 1 + 1) : False := by omega
theorem ge3 (a L : Nat) (q : a = L ∨ a = L + 1 ∨ a = L + 1 + 1) : L ≤ a := by omega
noncomputable def csL (l : Addr) : List CS := .val (.ref l) :: List.replicate 22 .unset
theorem csL_adr {l : Addr} {i : Nat} {c : CS} (e : (csL l)[i]? = some c) : c.adr = [] := by
  cases i with
  | zero => cases (e); rfl
  | succ i =>
    have : c ∈ List.replicate 22 CS.unset := List.mem_of_getElem? (show (List.replicate 22 CS.unset)[i]? = some c from e)
    rw [List.eq_of_mem_replicate this]; rfl
theorem law_inv {d : Dy} {h₁ : Heap} {l : Addr} {vs : List Value} {xs : List Int} {m : Str → Option Value} {o1 o2 : Obj} {L : Nat} (hW : d.W = [187]) (hL : d.env.locals = L) (hLs : d.he.objs.size = L) (hcl : d.env.cells = lawCells L)
    (F : Fr d.he L h₁ m) (N : News d.he L h₁ [(L + 1 + 1, o2), (L + 1, o1)]) (h2 : o2.data = .cell none) (h1 : o1.data = .cell none) (hm : m "script" = some (.ref l)) (hlo : localsOk m = true)
    (hl : d.he.IsList l vs.toArray) (hi : IntsAre vs xs) (hP : d.he.get? 187 = some (tabObj #[])) :
    Inv nm_law d (sigma nm_law [.list (xs.map .int)]) h₁ (csL l) := by
  have hca : cellA d.env nm_law = [L + 1, L + 1 + 1] := by
    unfold cellA
    rw [hcl]
    rfl
  have hwr : wr nm_law d (csL l) = [L, L + 1, L + 1 + 1] := by
    unfold wr
    rw [hca, hL]
    rfl
  have hge : ∀ a : Addr, (L : Nat) ≤ a → d.he.get? a = none := fun a ha => by
    cases e : d.he.get? a with
    | none => rfl
    | some o =>
      have := Heap.lt_size e
      rw [hLs] at this
      exact absurd this (Nat.not_lt.mpr ha)
  have hmn : ∀ p ∈ nm_law.slots.tail, p.2 = .local → m p.1 = none := fun p hp e => by
    have := List.all_eq_true.mp hlo p hp
    rw [e] at this
    simpa using this
  refine ⟨⟨m, by rw [hL]; exact F.ns, fun i p c a b => ?_⟩, rfl, rfl, fun i sv c a b => ?_, F.keep, fun a ha => ?_, ?_, fun a _ ha => ?_, fun i j c c' _ a _ x hx => ?_, fun i x dx e => ?_⟩
  · cases i with
    | zero => cases (a); cases (b); exact hm
    | succ i =>
      have e : c ∈ List.replicate 22 CS.unset := List.mem_of_getElem? (show (List.replicate 22 CS.unset)[i]? = some c from b)
      rw [List.eq_of_mem_replicate e]
      have hp : p ∈ nm_law.slots.tail := List.mem_of_getElem? (show nm_law.slots.tail[i]? = some p from a)
      have hcell : p.2 ≠ .local → p = (("first" : Str), NameKind.cell) ∨ p = (("second" : Str), NameKind.cell) := by
        intro hne
        simp only [nm_law, List.tail_cons, List.mem_cons, List.not_mem_nil, or_false] at hp
        rcases hp with rfl | rfl | rfl | rfl | rfl | rfl | rfl | rfl | rfl | rfl | rfl | rfl | rfl | rfl | rfl | rfl | rfl | rfl | rfl | rfl | rfl | rfl <;> first | exact absurd rfl hne | exact .inl rfl | exact .inr rfl
      by_cases hk : p.2 = .local
      · unfold Stored
        rw [hk]
        exact hmn p hp hk
      · rcases hcell hk with rfl | rfl
        · exact ⟨L + 1, by rw [hcl]; rfl, o1, (N _ (.tail _ (.head _))).1, h1⟩
        · exact ⟨L + 1 + 1, by rw [hcl]; rfl, o2, (N _ (.head _)).1, h2⟩
  · cases i with
    | zero =>
      cases (a); (refine inj1 b ?_; clear b)
      refine .val (.list ?_ (are_rs hi))
      refine sEAA hl fun o e hc r => ?_; try clear hl
      refine ⟨o, hideAll_get _ (F.keep _ _ e) ?_, hc, r⟩
      rw [hW, hwr]
      intro hmem
      have hlt := Heap.lt_size e
      rw [hLs] at hlt
      rcases List.mem_cons.mp hmem with q | q
      · rw [q, hP] at e; cases (e); cases (hc)
      · have q' : (l : Nat) = L ∨ (l : Nat) = L + 1 ∨ (l : Nat) = L + 1 + 1 := by simpa using q
        exact no3 l L hlt q'
    | succ i =>
      have e1 : sv ∈ List.replicate 22 SV.unset := List.mem_of_getElem? (show (List.replicate 22 SV.unset)[i]? = some sv from a)
      have e2 : c ∈ List.replicate 22 CS.unset := List.mem_of_getElem? (show (List.replicate 22 CS.unset)[i]? = some c from b)
      rw [List.eq_of_mem_replicate e1, List.eq_of_mem_replicate e2]
      exact .unset
  · rw [hwr] at ha
    have q : (a : Nat) = L ∨ (a : Nat) = L + 1 ∨ (a : Nat) = L + 1 + 1 := by simpa using ha
    exact hge a (ge3 a L q)
  · rw [hca, hL]
    intro hmem
    have q : (L : Nat) = L + 1 ∨ (L : Nat) = L + 1 + 1 := by simpa [adrs, csL, CS.adr] using hmem
    omega
  · rw [show adrs (csL l) = [] from rfl] at ha
    exact nn4 ha
  · rw [csL_adr a] at hx; exact nn4 hx
  · have := csL_adr e
    cases (this)
theorem law_envOK {name : Str} {scope : Scope} {L : Nat} {fa : Addr} {cd : Value} (hk : scope.kind = .function) (hn : kindsOk scope.names = true) (hcl : cellsFrom (L + 1) scope.names [] = lawCells L) : EnvOK nm_law (envOfC name scope L fa cd) := by
  refine sA (Bool.and_eq_true_iff.mp hn) fun hn1 hn2 => ?_
  refine ⟨hk, rfl, rfl, fun p hp => .inl (eq_of_beq (List.all_eq_true.mp hn1 p hp)), fun x hx => eq_of_beq (List.all_eq_true.mp hn2 x hx), ?_, ?_, by decide +kernel, ?_⟩
  · have : (nm_law.slots.all fun p => p.2 == .local || p.2 == .cell || p.2 == .free) = true := by decide +kernel
    intro p hp
    have := List.all_eq_true.mp this p hp
    simpa [or_assoc] using this
  · intro p hp q hq _ _ c h1 h2
    have e : (envOfC name scope L fa cd).cells = lawCells L := hcl
    rw [e] at h1 h2
    have m1 := mem_lookup h1
    have m2 := mem_lookup h2
    simp only [List.mem_cons, Prod.mk.injEq, List.not_mem_nil, or_false] at m1 m2
    rcases m1 with ⟨a1, b1⟩ | ⟨a1, b1⟩ <;> rcases m2 with ⟨a2, b2⟩ | ⟨a2, b2⟩
    · rw [a1, a2]
    · have : (L + 1 + 1 : Nat) = L + 1 := b1.symm.trans b2
      omega
    · have : (L + 1 : Nat) = L + 1 + 1 := b1.symm.trans b2
      omega
    · rw [a1, a2]
  · have : (nm_law.slots.all fun p => !(p.1 == ("__classdict__" : Str)) && !(p.1 == ("__debug__" : Str))) = true := by decide +kernel
    intro p hp
    have := List.all_eq_true.mp this p hp
    simpa using this
theorem law_goal {w : World} {s₁ : Shared} {h₁ : Heap} {tk : Tok} {name : Str} {scope : Scope} {fa l : Addr} {cd : Value} {bd : List Stmt} {vs : List Value} {xs : List Int} {m : Str → Option Value} {o1 o2 : Obj} {loose : List Str} {mean : ExcName → Option Value} {mg mb : Str → Option Value}
    (hbd : bd = (b_law w).ss ++ [(x_last w).st]) (hk : scope.kind = .function) (hn : kindsOk scope.names = true) (hcl : cellsFrom (s₁.heap.objs.size + 1) scope.names [] = lawCells s₁.heap.objs.size)
    (T : Top vw loose mean mg mb s₁.heap) (KX : (hd.heap_1 w.params).In s₁.heap) (hlen : ¬ ((63 : Int) < (xs.length : Int))) (hg : s₁.gens = #[])
    (F : Fr s₁.heap s₁.heap.objs.size h₁ m) (N : News s₁.heap s₁.heap.objs.size h₁ [(s₁.heap.objs.size + 1 + 1, o2), (s₁.heap.objs.size + 1, o1)]) (h2 : o2.data = .cell none) (h1 : o1.data = .cell none) (hm : m "script" = some (.ref l)) (hlo : localsOk m = true)
    (hl : s₁.heap.IsList l vs.toArray) (hi : IntsAre vs xs) {Q : Flow → Shared → Prop} {E : Value → Shared → Prop}
    (h : ∀ s', s'.os = s₁.os → AllBare s'.gens → OldK s₁.heap s'.heap → Q (.ret (.bool true)) s') :
    wpAny (model PySem.Challenge.rw_xe0043_01.row.prog w) (callerA.deeper (envOfC name scope s₁.heap.objs.size fa cd)) (execs bd (envOfC name scope s₁.heap.objs.size fa cd)) Q E { heap := h₁, gens := s₁.gens, drawn := s₁.drawn, toks := tk, os := s₁.os } := by
  subst hbd
  have hT := tabs_top (w := w) T KX
  refine sA (hT _ (.head _)) fun hcd hP => ?_
  refine sEE (bmod_of_top T) fun bm ob M => ?_
  have I := law_inv (d := { hb := hideAll s₁.heap [187], he := s₁.heap, A := callerA.deeper (envOfC name scope s₁.heap.objs.size fa cd), W := [187], env := envOfC name scope s₁.heap.objs.size fa cd }) rfl rfl rfl hcl F N h2 h1 hm hlo hl hi hP
  have D : DOk (u0 w) 4 nm_law { hb := hideAll s₁.heap [187], he := s₁.heap, A := callerA.deeper (envOfC name scope s₁.heap.objs.size fa cd), W := [187], env := envOfC name scope s₁.heap.objs.size fa cd } := by
    refine ⟨law_envOK hk hn hcl, base_top T KX, Le.hide _ _, ⟨?_, ?_, rfl⟩, fun a ha => ?_, Nat.le_of_eq (hideAll_size _ _)⟩
    · show 1 + claimMargin + 1 + 4 < recursionLimit
      decide
    · show 4 + 3 + 8 * 4 + 200 < cLine
      decide
    · rw [List.mem_singleton] at ha
      subst ha
      show s₁.heap.get? 187 ≠ none
      rw [hP]
      exact fun q => by exact nn1 q
  have cdH : CodeHd (hideAll s₁.heap [187]) 191 187 := (ghost_code (tabs := [(191, 187)]) hT).1
  have MH : BMod (hideAll s₁.heap [187]) mainGlobals mg bm ob := ⟨ghost_ns hT M.ns, M.name, M.ne, ghost_get hT M.obj (fun q => by have := M.cls; rw [q] at this; cases (this)), M.cls, M.dict, M.data⟩
  refine law_walk (by omega) D I rfl rfl (.head _) (hideAll_none _ (.head _)) cdH hP MH fun s' e1 e2 e3 e4 => h s' e1 (e2 (.of_eq hg)) ⟨fun b o e => ?_, fun b o e => ?_⟩
  · by_cases q : b = 187
    · subst q
      refine sE e4 fun ps e5 => ?_; try clear e4
      rw [show s₁.heap.get? 187 = some (tabObj #[]) from hP] at e
      (refine inj1 e ?_; clear e)
      exact .inr (.inl ⟨(hcd.tab hP).isCodeTable, rfl, #[], ps, rfl, by rw [Array.empty_append]; exact e5⟩)
    · exact .inl (e3 b o q e)
  · by_cases q : b = 187
    · subst q
      refine sE e4 fun ps e5 => ?_; try clear e4
      exact ⟨_, e5⟩
    · exact ⟨o, e3 b o q e⟩
section
set_option maxHeartbeats 4000000
theorem law_holds : PySem.Challenge.rw_xe0043_01.Holds := hd ⟨left, by
  w_strict (
  k_fill
  intro w s₀ s₁ mg mb G Y fa o pm cd doc dV kV ho hd hcd hD hmg hg args vals as hpre hlay hrd hwl hlo
  have KX := kIn_of Y
  refine Ground.open G ?_
  intro T B D TE TW
  try (refine guard_noD D (by decide +kernel) ?_; clear D)
  clear hmg
  wrow_args hpre hlay hrd hwl hlo
  all_goals (
    first | refine callC_kw (enter_call ?_) | refine enter_call ?_
    w_top on
    w_call any ho hd hcd hD T F
    rename_i left right N0 X0
    refine law_goal (by kernel_rfl) (by kernel_rfl) (by kernel_rfl) (by kernel_rfl) T KX (by assumption) hg F N0 (left.trans (by kernel_rfl)) (right.trans (by kernel_rfl)) (by rfl) (by rfl) (by assumption) (by assumption) fun s' e1 e2 e3 => ?_
    exact ⟨.inl ⟨_, _, [], rfl, fun _ => rfl, ReadsW.bool true, by first | rfl | wrow_post, fun _ => ⟨List.nodup_nil, fun _ hm => (nomatch hm)⟩⟩, e3, e1, e2⟩))⟩
end
end
end Mine
theorem PySem.Challenge.cw_xe0043_01_holds : PySem.Challenge.rw_xe0043_01.Holds :=
  Mine.law_holds
